/-
  Part 45 of the proof of the law FnExpSum: XEv, XEr. Conditions: those of each statement.
-/
import Derived.Test.YthecibbmbnpegaaGreatDoorK34
import Derived.Test.YthecibbmbnpegaaGreatDoorK44
import Derived.Laws.Bits64
import Derived.Deep.DeepCutAuto
import Derived.Deep.RegionWith
set_option linter.unusedSimpArgs false
set_option linter.unusedVariables false
set_option maxRecDepth 100000
set_option maxHeartbeats 4000000
namespace Go.Proofs.YthecibbmbnpegaaGreatDoor
open Go.Big Go.RowKit
attribute [local go_sem ↓] Go.wp_at_zero Go.wp_at_succ
section
variable {s:Nat}{w0 w w' wB:World}{q0 q q':Option StkSt}{W R:List Pn}{x y z m p:Pn}{V:Int}{e:Ending}{Y:Nat}
theorem Pn.addr(h:PnOk s q w p)(hl:0<p.xs.length):p.A=some ⟨p.b,p.o,none⟩:=h.nm.addr hl
theorem Pn.pos(hd:DG 18446744073709551616 p.xs)(h:0<p.n):0<p.xs.length:=by
 rcases Nat.eq_zero_or_pos p.xs.length with h0|h0
 ·unfold Pn.n at h
  rw[List.eq_nil_of_length_eq_zero h0,val_nil]at h;omega
 ·exact h0
theorem Pn.lenLe(hd:DG 18446744073709551616 p.xs)(nz:NZ p.xs){r:Pn}(hr:DG 18446744073709551616 r.xs)(h:p.n<=r.n):p.xs.length<=r.xs.length:=len_sm hd hr nz h
theorem exSP(h:Bv s w0 q0 w q W R)(hln:lenS q<=40000000000)(hT:TabW w)(hx:x∈W++R)(hy:y∈W++R)(hm:m∈W++R)(dxy:PDj x y)(dxm:PDj x m)(dym:PDj y m)(nx:NZ x.xs)(ny:NZ y.xs)(nm:NZ m.xs)(hx1:1<x.n)(hx9:x.xs.length<=100)(hy2:2<=y.xs.length)(hy9:y.xs.length<=100)(hm1:1<m.n)(hm9:m.xs.length<=60)(hY:y.n=(Y:Int))
 (hr:m.n%2=1\/ ∃L:Nat,m.n=2^L):Calls Tryz.prog 39 #[.slice none 0 0,.pointer (some ⟨s,0,none⟩),.slice x.A x.xs.length x.c,.slice y.A y.xs.length y.c,.slice m.A m.xs.length m.c,.bool false] w (RetS s q (x.n^Y%m.n) w):=by
 have ox:=h.lv.ok x hx;have oy:=h.lv.ok y hy;have om:=h.lv.ok m hm;have ax:=Pn.addr ox (Pn.pos ox.dg (by omega));have ay:=Pn.addr oy (by omega);have am:=Pn.addr om (Pn.pos om.dg (by omega));obtain⟨Ax,bx,ox',cx,xs⟩:=x;obtain⟨Ay,by_,oy',cy,ys⟩:=y;obtain⟨Am,bm,om',cm,ms⟩:=m;simp only at ax ay am;subst ax ay am
 exact exS h.lv.st hln h.lv.gl hT ox oy om nx ny nm (by
  rw[List.pairwise_cons,List.pairwise_cons];refine⟨fun p hp=> ?_,fun p hp=> ?_,List.pairwise_singleton _ _⟩
  ·simp only[List.mem_cons,List.not_mem_nil,or_false]at hp
   rcases hp with rfl|rfl
   ·exact dxy
   ·exact dxm
  ·simp only[List.mem_cons,List.not_mem_nil,or_false]at hp
   subst hp;exact dym) hx1 hx9 hy2 hy9 hm1 hm9 hY hr
theorem Bv.p3{a b c:Pn}(h:Bv s w0 q0 w q (a::b::c::W) R):Bv s w0 q0 w q (c::a::b::W) R:=h.perm (List.perm_middle (l₁:=[a,b]) (l₂:=W) (a:=c))
theorem Bv.p4{a b c d:Pn}(h:Bv s w0 q0 w q (a::b::c::d::W) R):Bv s w0 q0 w q (d::a::b::c::W) R:=h.perm (List.perm_middle (l₁:=[a,b,c]) (l₂:=W) (a:=d))
theorem Bv.p5{a b c d f:Pn}(h:Bv s w0 q0 w q (a::b::c::d::f::W) R):Bv s w0 q0 w q (f::a::b::c::d::W) R:=h.perm (List.perm_middle (l₁:=[a,b,c,d]) (l₂:=W) (a:=f))
theorem ev_len{r:Pn}(hd:DG 18446744073709551616 p.xs)(nz:NZ p.xs)(hr:DG 18446744073709551616 r.xs)(hl:r.xs.length<=60)(h:p.n<=r.n):p.xs.length<=500/\p.xs.length<=1000000:=by
 have:=Pn.lenLe hd nz hr h;omega
theorem Bv.addE(h:Bv s w0 q0 w q W R)(f:Fr [] w w')(hp:PnE w' p)(hb:p.c=0\/w.heap.size<=p.b): ∃p',p'.v=p.v/\p'.xs=p.xs/\Bv s w0 q0 w' q (p'::W) R:=by
 have hm:=hp.nm.max;unfold maxLen at hm;by_cases hc:p.c=0
 ·have hx:p.xs=[]:=List.eq_nil_of_length_eq_zero (by have:=hp.nm.le;omega)
  refine⟨⟨p.A,w.heap.size,0,p.c,p.xs⟩,rfl,rfl,h.add f ⟨?_,hp.dg,by simp only;omega,fun i a1 a2=>by simp only at a1 a2;omega⟩ (Nat.le_refl _)⟩;simp only;rw[hx];exact Nm.nil ⟨hp.nm.max,.inl hc⟩
 ·have hb:=hb.resolve_left hc
  exact⟨p,rfl,rfl,h.add f ⟨hp.nm,hp.dg,by omega,(NewS.of h.lv.st hb).off⟩ hb⟩
theorem even_parts{M:Int}{t:Nat}(h:HasTz M t)(hev:M%2=0)(hnp: ∀L:Nat,M≠2^L):0<t/\M=2^t*(M/2^t)/\(M/2^t)%2=1/\1<M/2^t/\1<(2:Int)^t/\(2:Int)^t<=M/\M/2^t<=M:=by
 obtain⟨m,hm,rfl⟩:=h;have hp:=pow_pos_ (B:=2) (by omega) t;have e:2^t*(2*m+1)/2^t=2*m+1:=Int.mul_ediv_cancel_left _ (by omega);rw[e]
 have ht:0<t:=by
  rcases Nat.eq_zero_or_pos t with h0|h0
  ·subst h0;rw[Int.pow_zero]at hev;omega
  ·exact h0
 have hm0:m≠0:=by
  rintro rfl;exact hnp t (by simp)
 have h2:(2:Int)<=2^t:=by
  have:=pow_le_pow_ (B:=2) (by omega) (show 1<=t by omega);rwa[show(2:Int)^1=2 from rfl]at this
 have h3:2^t*1<=2^t*(2*m+1):=Int.mul_le_mul_of_nonneg_left (by omega) (by omega);have h4:1*(2*m+1)<=2^t*(2*m+1):=Int.mul_le_mul_of_nonneg_right (by omega) (by omega);refine⟨ht,rfl,by omega,by omega,by omega,by omega,by omega⟩
theorem even_fin{w1:World}{q1:Option StkSt}{z1:Pn}(h:Bv s wB q w1 q1 (z1::W) R)(nz:NZ z1.xs)(hv:z1.n=V)(hl:lenS q1=lenS q):RetS s q V wB (.returned z1.v) w1:=
 RetS.mk h.lv nz hv hl (h.nb z1 (by simp))
theorem even_any(h:Bv s wB q w q [z] [x,y,m])(hln:lenS q<=40000000000)(hT: ∀wx,Fc 51 (StS s q) wB wx->TabW wx)(nx:NZ x.xs)(ny:NZ y.xs)(nm:NZ m.xs)(hx1:1<x.n)(hx9:x.xs.length<=100)(hy2:2<=y.xs.length)(hy9:y.xs.length<=100)(hm1:1<m.n)(hm9:m.xs.length<=60)(hY:y.n=(Y:Int))
 (hev:m.n%2=0)(hnp: ∀L:Nat,m.n≠2^L){l:Nat}(hlz:l<=z.c):
 Calls Tryz.prog 68 #[.slice z.A l z.c,.pointer (some ⟨s,0,none⟩),.slice x.A x.xs.length x.c,.slice y.A y.xs.length y.c,.slice m.A m.xs.length m.c] w (RetS s q (x.n^Y%m.n) wB):=by
 have om:=h.lv.ok m (by simp);have CT:=κ (trail_any (.slice m.A m.xs.length m.c) m.n w (om.nm.sw om.dg nm) (words_BIG om.dg (by omega)) (hT _ h.lv.fr));have H:=κ h;have HT:=κ hT;have NX:=κ nx;have NY:=κ ny;have NM:=κ nm;have HX1:=κ hx1;have HY:=κ hY;have HEV:=κ hev;have HNP:=κ hnp;have HM1:=κ hm1;clear h om hT nx ny nm hx1 hY hev hnp hm1;go_enter Tryz.func68,Tryz.ntmps68;go_upto_region 2 with(go_at_call 97;refine(CT.out).mono ?_;rintro e w1 ⟨n,rfl,hn,hn9,rfl⟩;have HN:=κ (hn.resolve_left (by have:=HM1.out;omega));clear hn);obtain⟨hn0,hM,hodd,hm21,hm11,hm1M,hm2M⟩:=even_parts HN.out HEV.out HNP.out;have hmd:=(H.out.lv.ok m (by simp)).dg;have HMD:=κ hmd
 have hn38:n<=3840:=by
  rcases Nat.lt_or_ge 3840 n with hh|hh
  ·exfalso
   have h1:=val_lt (B:=18446744073709551616) (by omega) hmd;have h2:=pow_le_pow_ (B:=2) (by omega) (show 64*m.xs.length<=n by omega);have e:(18446744073709551616:Int)^m.xs.length=2^(64*m.xs.length):=by rw[show(18446744073709551616:Int)=2^64 from rfl,<- Int.pow_mul]
   rw[e]at h1;unfold Pn.n at hm1M;omega
  ·exact hh
 have HMM:=κ hM;have HODD:=κ hodd;have HM21:=κ hm21;have HM11:=κ hm11;have HM1M:=κ hm1M;have HM2M:=κ hm2M;have MB:=κ (show m.n<BIG from words_BIG hmd (by omega));have T1:True:=trivial;clear hM hodd hm21 hm11 hm1M hm2M CT hmd hn9
 go_upto_region 4 with(first
  |(go_at_call 92;refine(natOneN w).mono ?_;rintro e w2 ⟨g2,rfl,row2,hg2,f2⟩;have F2:=κ f2;have R2:=κ row2;have HG2:=κ hg2;clear row2 hg2 f2)
  |(go_at_call 93;refine(lshN_any none 0 0 g2 0 1 [1] n w2 (Nat.le_refl _) (R2.out.src (Nat.zero_le _)) R2.out.lt (DG.cons (by omega) (by omega) (DG.nil _)) (by simp) (by simp) (by simp) (by unfold maxLen;omega) hn0 (by omega) (by simp)).mono ?_;rintro e w3 hr;obtain⟨m1,rfl,hB3,nz3,v3⟩:=H.out.addN hr F2.out;have B3:=κ hB3;have N3:=κ nz3;have V3:=κ (show m1.n=2^n by rw[v3,val_cons,val_nil];omega);clear hr hB3 nz3 v3)
  |(go_at_call 98;refine(rshN_any (.slice m.A m.xs.length m.c) m.n n w3 ((B3.out.lv.ok m (by simp)).nm.sw HMD.out NM.out) MB.out hn0 (by omega) (by have:=HM21.out;omega)).mono ?_;rintro e w4 hr;obtain⟨m2,rfl,hB4,nz4,v4⟩:=B3.out.addN hr (Fr.refl _ _);have B4:=κ hB4;have N4:=κ nz4;have V4:=κ v4;clear hr hB4 nz4 v4));have hm1l:m1.xs.length<=60:=Nat.le_trans (Pn.lenLe (B4.out.lv.ok m1 (by simp)).dg N3.out HMD.out (by rw[V3.out];exact HM1M.out)) hm9;have hm2l:m2.xs.length<=60:=Nat.le_trans (Pn.lenLe (B4.out.lv.ok m2 (by simp)).dg N4.out HMD.out (by rw[V4.out];exact HM2M.out)) hm9;have dj:=B4.out.lv.dj;simp only[List.cons_append,List.nil_append,List.pairwise_cons,List.mem_cons,List.not_mem_nil,or_false,forall_eq_or_imp,forall_eq]at dj;have DJ:=κ (show PDj x y/\PDj x m1/\PDj y m1/\PDj x m2/\PDj y m2 from⟨dj.2.2.2.1.1,dj.2.1.2.1.symm,dj.2.1.2.2.1.symm,dj.1.2.2.1.symm,dj.1.2.2.2.1.symm⟩);have D1:=κ (B4.out.lv.ok m1 (by simp)).dg;have D2:=κ (B4.out.lv.ok m2 (by simp)).dg;have HP:=κ (pow_pos_ (B:=2) (by omega) n);have C1:=κ (exSP B4.out hln (HT.out _ B4.out.lv.fr) (x:=x) (y:=y) (m:=m1) (by simp) (by simp) (by simp) DJ.out.1 DJ.out.2.1 DJ.out.2.2.1 NX.out NY.out N3.out HX1.out hx9 hy2 hy9 (by rw[V3.out];exact HM11.out) hm1l HY.out (.inr ⟨n,V3.out⟩))
 have HM78:=κ (show m.n<18446744073709551616^78 by
  have h1:=val_lt (B:=18446744073709551616) (by omega) HMD.out;have h2:=pow_le_pow_ (B:=18446744073709551616) (by omega) (show m.xs.length<=78 by omega);unfold Pn.n;omega);have T2:True:=trivial;clear dj F2 R2 HG2 B3
 go_upto_region 8 with(first
  |(go_at_call 39;clear T1;refine(C1.out).mono ?_;rintro e w5 hr;obtain⟨z1,q5,rfl,hB5,nz5,v5,l5⟩:=B4.out.ret hr;have B5:=κ hB5;have N5:=κ nz5;have V5:=κ v5;have L5:=κ l5;have C2:=κ (exSP hB5 (by omega) (HT.out _ hB5.lv.fr) (x:=x) (y:=y) (m:=m2) (by simp) (by simp) (by simp) DJ.out.1 DJ.out.2.2.2.1 DJ.out.2.2.2.2 NX.out NY.out N4.out HX1.out hx9 hy2 hy9 (by rw[V4.out];exact HM21.out) hm2l HY.out (.inl (by rw[V4.out];exact HODD.out)));clear hr hB5 nz5 v5 l5)
  |(go_at_call 39;refine(C2.out).mono ?_;rintro e w6 hr;obtain⟨z2,q6,rfl,hB6,nz6,v6,l6⟩:=B5.out.ret hr;have B6:=κ hB6.p5;have N6:=κ nz6;have V6:=κ v6;have L6:=κ (l6.trans L5.out);have E5:=κ (hB6.lv.ok z1 (by simp)).dg;have E6:=κ (hB6.lv.ok z2 (by simp)).dg;clear hr hB6 nz6 v6 l6)
  |(go_at_call 41;refine(setB (l:=l) (x:=z2) B6.out (by simp) N6.out (ev_len E6.out N6.out D2.out hm2l (by rw[V6.out,V4.out];exact Int.le_of_lt (Int.emod_lt_of_pos _ (by have:=HM21.out;omega)))).2 hlz).mono ?_;rintro e w7 ⟨z7,q7,rfl,hB7,nz7,v7,l7⟩;have B7:=κ hB7.p3;have N7:=κ nz7;have V7:=κ v7;have L7:=κ (l7.trans L6.out);clear hB7 nz7 v7 l7)
  |(go_at_call 99;refine(subMod_any (x:=z1) (y:=z2) (n:=n) B7.out (by simp) N5.out N6.out (ev_len E5.out N5.out D1.out hm1l (by rw[V5.out,V3.out];exact Int.le_of_lt (Int.emod_lt_of_pos _ HP.out))).1 (ev_len E6.out N6.out D2.out hm2l (by rw[V6.out,V4.out];exact Int.le_of_lt (Int.emod_lt_of_pos _ (by have:=HM21.out;omega)))).1 (words_BIG E5.out (Nat.le_trans (ev_len E5.out N5.out D1.out hm1l (by rw[V5.out,V3.out];exact Int.le_of_lt (Int.emod_lt_of_pos _ HP.out))).1 (by omega))) (words_BIG E6.out (Nat.le_trans (ev_len E6.out N6.out D2.out hm2l (by rw[V6.out,V4.out];exact Int.le_of_lt (Int.emod_lt_of_pos _ (by have:=HM21.out;omega)))).1 (by omega))) hn0 (by omega) (by rw[V5.out,V3.out];exact Int.emod_lt_of_pos _ HP.out)).mono ?_;rintro e w8 ⟨z8,q8,rfl,hB8,nz8,v8,l8⟩;have B8:=κ hB8;have N8:=κ nz8;have V8:=κ v8;have L8:=κ (l8.trans L7.out);have E8:=κ (hB8.lv.ok z8 (by simp)).dg;clear hB8 nz8 v8 l8))
 have CI:=κ (modInverse_any (w:=w8) (M:=m.n) (show PnE w8 ⟨m2.A,m2.b,m2.o,m2.c,m2.xs⟩from⟨(B8.out.lv.ok m2 (by simp)).nm,D2.out,N4.out⟩) (show PnE w8 ⟨m1.A,m1.b,m1.o,m1.c,m1.xs⟩from⟨(B8.out.lv.ok m1 (by simp)).nm,D1.out,N3.out⟩) (by show 0<m2.n;rw[V4.out];have:=HM21.out;omega) (by show 0<m1.n;rw[V3.out];exact HP.out) (by show m2.n<=m.n;rw[V4.out];exact HM2M.out) (by show m1.n<=m.n;rw[V3.out];exact HM1M.out) HM78.out
  (fun d h1 h2=>odd_coprime (a:=m2.n) (by rw[V4.out];exact HODD.out) n d h1 (by have:d∣m1.n:=h2;rwa[V3.out]at this)) B8.out.lv.gl);have h8l:z8.xs.length<=60:=Nat.le_trans (Pn.lenLe E8.out N8.out D1.out (by rw[V8.out,V3.out];exact Int.le_of_lt (Int.emod_lt_of_pos _ HP.out))) hm1l;clear C1 C2
 go_wp2_with (first
  |(go_at_call 100;refine(CI.out).mono ?_;rintro e w9 ⟨p9,rfl,pe9,f9,hb9,h90,h91,hc9⟩;obtain⟨iv,e9,ex9,hB9⟩:=B8.out.addE f9 pe9 hb9;rw[<-e9];have B9:=κ hB9.p4;have N9:=κ (show NZ iv.xs by rw[ex9];exact pe9.nz);have C9:=κ (show Cg m1.n (m2.n*iv.n) 1 by unfold Pn.n at hc9 ⊢;rw[ex9];exact hc9);have h9l:iv.xs.length<=60:=(by rw[ex9];exact Nat.le_trans (len_sm pe9.dg D1.out pe9.nz h91) hm1l);have E9:=κ (hB9.lv.ok iv (by simp)).dg;clear e9 ex9 hB9 pe9 f9 hb9 h90 h91 hc9)
  |(go_at_call 33;clear T2;refine(mulB (l:=z2.xs.length) (x:=z8) (y:=iv) B9.out (by simp) (by simp) (by omega) (by omega) (B9.out.lv.ok z2 (by simp)).nm.le).mono ?_;rintro e w10 ⟨z10,q10,rfl,hB10,nz10,v10,l10⟩;have B10:=κ hB10;have N10:=κ nz10;have V10:=κ v10;have L10:=κ (l10.trans L8.out);have h10l:z10.xs.length<=120:=(by have:=len_mul E8.out E9.out (hB10.lv.ok z10 (by simp)).dg nz10 v10;omega);clear hB10 nz10 v10 l10)
  |(go_at_call 96;refine(truncB (l:=z10.xs.length) (x:=z10) (n:=n) B10.out (by simp) N10.out (by omega) hn0 (by omega) (B10.out.lv.ok z10 (by simp)).nm.le).mono ?_;rintro e w11 ⟨z11,q11,rfl,hB11,nz11,v11,l11⟩;have B11:=κ hB11.p3;have N11:=κ nz11;have V11:=κ v11;have L11:=κ (l11.trans L10.out);have h11l:z11.xs.length<=60:=(Nat.le_trans (Pn.lenLe (hB11.lv.ok z11 (by simp)).dg nz11 D1.out (by rw[v11,V3.out];exact Int.le_of_lt (Int.emod_lt_of_pos _ HP.out))) hm1l);have E11:=κ (hB11.lv.ok z11 (by simp)).dg;clear hB11 nz11 v11 l11)
  |(go_at_call 33;refine(mulB (l:=z8.xs.length) (x:=z11) (y:=m2) B11.out (by simp) (by simp) (by omega) (by omega) (B11.out.lv.ok z8 (by simp)).nm.le).mono ?_;rintro e w12 ⟨z12,q12,rfl,hB12,nz12,v12,l12⟩;have B12:=κ hB12.p4;have N12:=κ nz12;have V12:=κ v12;have L12:=κ (l12.trans L11.out);have h12l:z12.xs.length<=120:=(by have:=len_mul E11.out D2.out (hB12.lv.ok z12 (by simp)).dg nz12 v12;omega);clear hB12 nz12 v12 l12)
  |(go_at_call 27;refine(addB (l:=z7.xs.length) (x:=z7) (y:=z12) B12.out (by simp) (by simp) N7.out N12.out (by have:=(ev_len (B12.out.lv.ok z7 (by simp)).dg N7.out D2.out hm2l (by rw[V7.out,V6.out,V4.out];exact Int.le_of_lt (Int.emod_lt_of_pos _ (by have:=HM21.out;omega)))).1;omega) (by omega) (B12.out.lv.ok z7 (by simp)).nm.le).mono ?_;rintro e w13 ⟨z13,q13,rfl,hB13,nz13,v13,l13⟩;have B13:=κ hB13;have N13:=κ nz13;have V13:=κ v13;have L13:=κ (l13.trans L12.out);clear hB13 nz13 v13 l13));first|go_ret2|go_ret
 refine even_fin B13.out N13.out ?_ L13.out;have k1:=C9.out;rw[V3.out]at k1;have k2:=crt_fin (z1:=z1.n) (z2:=z2.n) (X:=x.n^Y) (p:=z11.n) HP.out (show 0<m2.n by rw[V4.out];have:=HM21.out;omega) k1 (by rw[V5.out,V3.out]) V6.out (by rw[V11.out,V10.out,V8.out]);rw[V13.out,V12.out,V7.out,k2,V4.out,<- HMM.out]
end
section
variable {s:Nat}{w0 w w':World}{q0 q q':Option StkSt}{W R:List Pn}{x y z m p:Pn}{V:Int}{e:Ending}
def RemP(s:Nat)(q:Option StkSt)(V:Int)(w:World)(e:Ending)(w':World):Prop:=
 ∃p q',e= .returned p.v/\PnE w' p/\p.n=V/\(p.c=0\/w.heap.size<=p.b)/\StkAt w' s q'/\StkLe w.heap.size q q'/\Fc 51 (StS s q) w w'
def RemK(s:Nat)(w0:World)(q0:Option StkSt)(V:Int)(p:Pn)(q':Option StkSt)(w':World):Prop:=
 StkAt w' s q'/\lenS q0<=lenS q'/\PnOk s q' w' p/\NZ p.xs/\p.n=V/\(p.c=0\/w0.heap.size<=p.b)/\StkLe w0.heap.size q0 q'/\Fc 51 (StS s q0) w0 w'
theorem rem_keep{w3:World}(h:Lv s w0 q0 w' q' (z::y::W) R)(ny:NZ y.xs)(hv:y.n=V)(hp:PlN w3 (nilP w3.heap.size) y)(hs:w0.heap.size<=w3.heap.size):RemK s w0 q0 V y q' w':=by
 refine⟨h.st,h.l0,h.ok y (by simp),ny,hv,?_,h.le,h.fr⟩;rcases hp with⟨_,_,e⟩|hp
 ·exact .inl e
 ·exact .inr (by omega)
theorem rem_back{w5:World}(h:RemK s w0 q0 V p q' w')(hst:StkAt w5 s (resS (lenS q0) q'))(hf:Fc 51 (StS s q') w' w5):RemP s q0 V w0 (.returned p.v) w5:=by
 obtain⟨h1,h2,h3,h4,h5,h6,h7,h8⟩:=h;exact⟨p,_,rfl,⟨h3.nm.fc hf (fun i a1 a2=>h3.off i a1 (by have:=h3.nm.le;omega)),h3.dg,h4⟩,h5,h6,hst,h7.res,h8.trans hf (fun b i hh hlt=>h7.sub h2 b i hh hlt)⟩
theorem rem_any(h:Lv s w q w q [] R)(hx:x∈R)(hm:m∈R)(nx:NZ x.xs)(nm:NZ m.xs)(hx9:x.xs.length<=100)(hm0:1<=m.xs.length)(hm9:m.xs.length<=100)(hln:lenS q<=70000000000):
 Calls Tryz.prog 64 #[.slice none 0 0,.pointer (some ⟨s,0,none⟩),.slice x.A x.xs.length x.c,.slice m.A m.xs.length m.c] w (RemP s q (x.n%m.n) w):=by
 obtain⟨k,hk0,hk9,hk⟩: ∃k:Nat,0<k/\k<=1000/\((m.xs.length<=x.xs.length/\k=x.xs.length-(m.xs.length-1))\/(x.xs.length<m.xs.length/\k=1)):=by
  by_cases hlt:m.xs.length<=x.xs.length
  ·exact⟨x.xs.length-(m.xs.length-1),by omega,by omega,.inl ⟨hlt,rfl⟩⟩
  ·exact⟨1,by omega,by omega,.inr ⟨by omega,rfl⟩⟩
 have hxc9:=(h.ok x (by simpa using hx)).c9;have hmc9:=(h.ok m (by simpa using hm)).c9;have hxcl:=(h.ok x (by simpa using hx)).nm.le;have hmcl:=(h.ok m (by simpa using hm)).nm.le;have H:=κ h;have HX:=κ hx;have HM:=κ hm;have NX:=κ nx;have NM:=κ nm;have CN:=κ (fun(W1:World) (f:Fr [] w W1)=>natL (h.fr0 f) hk0 (show k<=1000000 by omega) (by omega));have HK0:=κ hk0;have hw1:IntKind.i64.wrap ((m.xs.length:Int)-1)=(m.xs.length:Int)-1:=by rw[IntKind.wrap_i64];omega
 have hw2:IntKind.i64.wrap ((x.xs.length:Int)-((m.xs.length:Int)-1))=(x.xs.length:Int)-((m.xs.length:Int)-1):=by rw[IntKind.wrap_i64];omega
 clear h hx hm nx nm;rcases hk with⟨h1,h2⟩|⟨h1,h2⟩
 ·have e1:(x.xs.length:Int)-((m.xs.length:Int)-1)=(k:Int):=by omega
  have e2:max (1:Int) (k:Int)=(k:Int):=by omega
  clear h1 h2 hk0;go_enter_defers Tryz.func64,Tryz.ntmps64;refine wp_mono ?_ bodyPostN_D
  go_upto_region 4 with(first
   |(go_at_call 37;refine(alias_nil _ _ _ _).mono ?_;rintro e w1 ⟨rfl,f1⟩;have F1:=κ f1;have CSV:=κ (save_any s q w1 (H.out.fr0 f1).st);clear f1)
   |(go_at_call 54;refine(CSV.out).mono ?_;rintro e w2 ⟨rfl,rfl⟩))
  go_wp2_with (first
   |(go_at_call 55;refine(CN.out _ F1.out).mono ?_;rintro e w3 ⟨b,o,c,q3,rfl,hc,hc9,lv3,ll3,_,_,_⟩;have L3:=κ (lv3.nil.perm (List.Perm.swap ⟨some ⟨b,o,none⟩,b,o,c,[]⟩ (nilP w3.heap.size) []));have LL3:=κ ll3;clear lv3 ll3)
   |(go_at_call 32;have CD:=κ (divL (l:=k) (ly:=0) (u:=x) (v:=m) L3.out (by simpa using HX.out) (by simpa using HM.out) NX.out NM.out (by omega) hm0 (by omega) hc (Nat.zero_le _));refine(CD.out).mono ?_;rintro e w4 ⟨zq,zr,q4,rfl,lv4,nz4,ny4,v4,u4,ll4,pz4,py4,le4⟩;have R4:=κ (rem_keep lv4 ny4 u4 py4 L3.out.fr.size);clear lv4 nz4 ny4 v4 u4 ll4 pz4 py4 le4));show Leaves _ _ _ _ _ _ _;obtain⟨rst,rl0,_⟩:=R4.out;refine leaves_cons (f:=53) (args:= #[.pointer (some ⟨s,0,none⟩),.int .i64 ((lenS q:Nat):Int)]) (by simp) (by simp[go_sem]) ?_;refine(restore_deferred s (lenS q) q4 .returning _ rst (dr_cap rst rl0)).mono ?_;rintro e u' w5 ⟨rfl,rfl,hst5,hf5⟩;refine⟨_,results_tmp rfl _ _ _,?_⟩;exact rem_back R4.out hst5 hf5
 ·have e1:max (1:Int) ((x.xs.length:Int)-((m.xs.length:Int)-1))=1:=by omega
  obtain rfl:k=1:=h2;clear h1 hk0;go_enter_defers Tryz.func64,Tryz.ntmps64;refine wp_mono ?_ bodyPostN_D
  go_upto_region 4 with(first
   |(go_at_call 37;refine(alias_nil _ _ _ _).mono ?_;rintro e w1 ⟨rfl,f1⟩;have F1:=κ f1;have CSV:=κ (save_any s q w1 (H.out.fr0 f1).st);clear f1)
   |(go_at_call 54;refine(CSV.out).mono ?_;rintro e w2 ⟨rfl,rfl⟩))
  go_wp2_with (first
   |(go_at_call 55;refine(CN.out _ F1.out).mono ?_;rintro e w3 ⟨b,o,c,q3,rfl,hc,hc9,lv3,ll3,_,_,_⟩;have L3:=κ (lv3.nil.perm (List.Perm.swap ⟨some ⟨b,o,none⟩,b,o,c,[]⟩ (nilP w3.heap.size) []));have LL3:=κ ll3;clear lv3 ll3)
   |(go_at_call 32;have CD:=κ (divL (l:=1) (ly:=0) (u:=x) (v:=m) L3.out (by simpa using HX.out) (by simpa using HM.out) NX.out NM.out (by omega) hm0 (by omega) hc (Nat.zero_le _));refine(CD.out).mono ?_;rintro e w4 ⟨zq,zr,q4,rfl,lv4,nz4,ny4,v4,u4,ll4,pz4,py4,le4⟩;have R4:=κ (rem_keep lv4 ny4 u4 py4 L3.out.fr.size);clear lv4 nz4 ny4 v4 u4 ll4 pz4 py4 le4));show Leaves _ _ _ _ _ _ _;obtain⟨rst,rl0,_⟩:=R4.out;refine leaves_cons (f:=53) (args:= #[.pointer (some ⟨s,0,none⟩),.int .i64 ((lenS q:Nat):Int)]) (by simp) (by simp[go_sem]) ?_;refine(restore_deferred s (lenS q) q4 .returning _ rst (dr_cap rst rl0)).mono ?_;rintro e u' w5 ⟨rfl,rfl,hst5,hf5⟩;refine⟨_,results_tmp rfl _ _ _,?_⟩;exact rem_back R4.out hst5 hf5
end
end Go.Proofs.YthecibbmbnpegaaGreatDoor
