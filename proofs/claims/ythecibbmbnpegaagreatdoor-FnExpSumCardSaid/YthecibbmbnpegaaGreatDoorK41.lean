/-
  Part 41 of the proof of the law FnExpSum: XLk, XLeE, XLeS, XLeW. Conditions: those of each statement.
-/
import Derived.Test.YthecibbmbnpegaaGreatDoorK40
import Derived.Laws.Bits64
import Derived.Deep.DeepCutAuto
import Derived.Deep.RegionWith
import Derived.Deep.CutBlock
set_option linter.unusedSimpArgs false
set_option linter.unusedVariables false
set_option maxRecDepth 100000
set_option maxHeartbeats 8000000
namespace Go.Proofs.YthecibbmbnpegaaGreatDoor
open Go.Big Go.RowKit
section
variable {w0 w w':World}{W:List In}{x y z q r:In}{V:Int}
theorem Li.add(h:Li w0 w W)(f:Fr [] w w')(hx:InOk w' x)(hp:w.heap.size<=x.p)(hb:x.c=0\/w.heap.size<=x.b):Li w0 w' (x::W):=by
 have hf:=h.fr0 f;have hs:=h.fr.size;refine⟨hf.fr,fun y hy=> ?_,fun y hy=> ?_,?_⟩
 ·rcases List.mem_cons.1 hy with rfl|hy
  ·exact hx
  ·exact hf.ok y hy
 ·rcases List.mem_cons.1 hy with rfl|hy
  ·exact⟨by omega,hb.imp id (fun a=>by omega)⟩
  ·exact hf.nw y hy
 ·rw[List.pairwise_cons]
  refine⟨fun y hy=> ?_,hf.dj⟩;have ho:=h.ok y hy;have h1:=ho.ib.lt;refine⟨by omega,?_⟩;by_cases hc:y.c=0
  ·exact .inr (.inl hc)
  ·have:=ho.blt (by omega)
   rcases hb with hb|hb
   ·exact .inl hb
   ·exact .inr (.inr (by omega))
theorem Li.nil(w0:World):Li w0 w0 []:=⟨Fr.refl _ _,fun x hx=>by simp at hx,fun x hx=>by simp at hx,List.Pairwise.nil⟩
def newIn(p:Nat):In:=⟨p,false,none,0,0,0,[]⟩
theorem newIn_ok{p:Nat}(h:IntB w p false none 0 0):InOk w (newIn p):=⟨h,Nm.nil (Rcv.nil _ _ _),DG.nil _,NZ.nil⟩
theorem Li.new(h:Li w0 w W)(f:Fr [] w w'){p:Nat}(hp:w.heap.size<=p)(hb:IntB w' p false none 0 0):Li w0 w' (newIn p::W):=h.add f (newIn_ok hb) hp (.inl rfl)
theorem In.pos{w:World}(h:InOk w x)(hv:0<x.v):x.ng=false/\0<x.xs.length/\x.v=val 18446744073709551616 x.xs:=by
 have h2:=val_nonneg (B:=18446744073709551616) (by omega) h.dg;unfold In.v sg at*;cases hn:x.ng with
 |true=>rw[hn]at hv;simp only[if_true]at hv;omega
 |false=>
  rw[hn]at hv;simp only[Bool.false_eq_true,if_false]at hv;refine⟨rfl,?_,by simp⟩;rcases Nat.eq_zero_or_pos x.xs.length with h0|h0
  ·rw[List.eq_nil_of_length_eq_zero h0,val_nil]at hv;omega
  ·exact h0
theorem quoRemI(h:Li w0 w (q::r::W))(hx:x∈W)(hy:y∈W)(hx0:0<x.v)(hy0:0<y.v)(hx9:x.xs.length<=800)(hy9:y.xs.length<=800)(hg:Gl w0):
 Calls Tryz.prog 89 #[q.pt,x.pt,y.pt,r.pt] w fun e w'=>e= .returned (.tuple #[q.pt,r.pt])/\ ∃q' r',q'.p=q.p/\r'.p=r.p/\q'.v=x.v/y.v/\r'.v=x.v%y.v/\Li w0 w' (q'::r'::W):=by
 have hq:=h.ok q (by simp);have hr:=h.ok r (by simp);have h2:=h.p2;obtain⟨bq,hbq,hbq0,rq⟩:=hq.rcv;obtain⟨br,hbr,hbr0,rr⟩:=hr.rcv;have hx1:x∈q::r::W:=List.mem_cons_of_mem _ (List.mem_cons_of_mem _ hx);have hy1:y∈q::r::W:=List.mem_cons_of_mem _ (List.mem_cons_of_mem _ hy);have hx2:x∈r::q::W:=List.mem_cons_of_mem _ (List.mem_cons_of_mem _ hx);have hy2:y∈r::q::W:=List.mem_cons_of_mem _ (List.mem_cons_of_mem _ hy);have ox:=h.ok x hx1;have oy:=h.ok y hy1;obtain⟨nx,lx,vx⟩:=In.pos ox hx0;obtain⟨ny,ly,vy⟩:=In.pos oy hy0;have hd:=h.dj;rw[List.pairwise_cons,List.pairwise_cons]at hd;have dqr:=hd.1 r (by simp);have dqx:=hd.1 x (List.mem_cons_of_mem _ hx);have dqy:=hd.1 y (List.mem_cons_of_mem _ hy);have drx:=hd.2.1 x hx;have dry:=hd.2.1 y hy;have cx:=ox.nm.le;have cy:=oy.nm.le
 have kq: ∀{u:In},InDj q u-> ∀{m:Nat},m<=u.c->Dj bq q.o q.c u.b u.o m:=fun hj m hm=>by
  have:=hj.2;unfold Dj;by_cases hc:0<q.c
  ·rw[hbq hc];omega
  ·omega
 have kr: ∀{u:In},InDj r u-> ∀{m:Nat},m<=u.c->Dj br r.o r.c u.b u.o m:=fun hj m hm=>by
  have:=hj.2;unfold Dj;by_cases hc:0<r.c
  ·rw[hbr hc];omega
  ·omega
 have dqr':q.c=0\/r.c=0\/bq≠br:=by
  have:=dqr.2;by_cases h1:0<q.c
  ·by_cases h2:0<r.c
   ·rw[hbq h1,hbr h2];exact this
   ·omega
  ·omega
 have P:DzPre q.A q.xs.length bq q.o q.c r.A r.xs.length br r.o r.c x.A x.b x.o x.c x.xs y.A y.b y.o y.c y.xs w:=
  {thr:=hg.kt.fr0 h.fr,td:=hg.dt.fr0 h.fr,z:=rq,zl:=hq.nm.le,cz9:=hq.c9,y:=rr,yl:=hr.nm.le,cy9:=hr.c9,u:=ox.nm,ud:=ox.dg,uz:=ox.nz,u9:=by omega,cu9:=ox.c9,v:=oy.nm,vd:=oy.dg,vz:=oy.nz,v1:=ly,v9:=by omega,cv9:=oy.c9
   dyz:=by unfold Dj;omega
   dyu:=kr drx cx,dyv:=kr dry cy,dzu:=kq dqx cx};have ibx:=ox.ib;have iby:=oy.ib;rw[nx]at ibx;rw[ny]at iby;refine(quoRem_any P hq.ib hr.ib ibx iby dqr.1 dqx.1 dqy.1 drx.1 dry.1 (h.pne (by simp) hbq hbq0) (h2.pne (by simp) hbr hbr0) (h.pne (by simp) hbq hbq0) (h2.pne (by simp) hbr hbr0) (h.pne hx1 hbq hbq0) (h2.pne hx2 hbr hbr0) (h.pne hy1 hbq hbq0) (h2.pne hy2 hbr hbr0)).mono ?_;rintro e w' ⟨A1,b1,o1,c1,qs,A2,b2,o2,c2,rs,rfl,i1,i2,n1,d1,z1,v1,p1,n2,d2,z2,v2,p2,bn,hf⟩;have hb:=bn dqr';refine⟨rfl,⟨q.p,false,A1,b1,o1,c1,qs⟩,⟨r.p,false,A2,b2,o2,c2,rs⟩,rfl,rfl,?_,?_,Li.putN (Z:=[q,r]) (Z':=[⟨q.p,false,A1,b1,o1,c1,qs⟩,⟨r.p,false,A2,b2,o2,c2,rs⟩]) h (hf.mono (fun b i hh hlt=> ?_)) (fun u hu=> ?_) ?_⟩
 ·show val 18446744073709551616 qs=_
  rw[v1,vx,vy]
 ·show val 18446744073709551616 rs=_
  rw[v2,vx,vy]
 ·rcases hh with rfl|rfl|hh|hh
  ·exact⟨q,by simp,.inl rfl⟩
  ·exact⟨r,by simp,.inl rfl⟩
  ·by_cases hc:0<q.c
   ·exact⟨q,by simp,.inr ⟨hc,by rw[hh.1,hbq hc]⟩⟩
   ·have:=hh.2.1;have:=hh.2.2;omega
  ·by_cases hc:0<r.c
   ·exact⟨r,by simp,.inr ⟨hc,by rw[hh.1,hbr hc]⟩⟩
   ·have:=hh.2.1;have:=hh.2.2;omega
 ·simp only[List.mem_cons,List.not_mem_nil,or_false]at hu
  rcases hu with rfl|rfl
  ·refine⟨⟨i1,n1,d1,z1⟩,q,by simp,rfl,?_⟩
   rcases p1 with⟨_,e2,_,e4⟩|⟨e2,_⟩
   ·by_cases hc:0<q.c
    ·exact .inr (.inl ⟨by simp only;rw[e2,hbq hc],e4⟩)
    ·exact .inl (by simp only;omega)
   ·exact .inr (.inr e2)
  ·refine⟨⟨i2,n2,d2,z2⟩,r,by simp,rfl,?_⟩
   rcases p2 with⟨_,e2,_,e4⟩|⟨e2,_⟩
   ·by_cases hc:0<r.c
    ·exact .inr (.inl ⟨by simp only;rw[e2,hbr hc],e4⟩)
    ·exact .inl (by simp only;omega)
   ·exact .inr (.inr e2)
 ·rw[List.pairwise_cons]
  exact⟨fun u hu=>by rw[List.mem_singleton]at hu;subst hu;exact⟨dqr.1,hb⟩,List.pairwise_singleton _ _⟩
theorem mulIM(h:Li w0 w (z::W))(hy:y∈W)(hz9:z.xs.length<=1000)(hy9:y.xs.length<=1000)(hmin:min z.xs.length y.xs.length<40)(hg:Gl w0):
 Calls Tryz.prog 124 #[z.pt,z.pt,y.pt] w fun e w'=>e= .returned z.pt/\PutI w0 W z (z.v*y.v) w':=by
 have C:=κ (mulI h hy hz9 hy9 hmin (hg.kt.fr0 h.fr));obtain⟨zp,hzp⟩: ∃zp,zp=z.p:=⟨_,rfl⟩;obtain⟨yp,hyp⟩: ∃yp,yp=y.p:=⟨_,rfl⟩;have HZP:=κ hzp;unfold In.pt at C ⊢
 rw[<-hzp,<- hyp]at C;rw[<-hzp,<- hyp];clear h hy hz9 hy9 hmin hg hzp hyp;go_enter Tryz.func124,Tryz.ntmps124;go_wp2_with (go_at_call 84;refine(C.out).mono ?_;rintro e w1 ⟨rfl,hp⟩;have HP:=κ hp;clear hp);first|go_ret2|go_ret
 exact⟨rfl,HP.out⟩
end
section
variable {w0 w w':World}{W:List In}{a b ua ub q r x y z:In}{V:Int}
theorem quo_bound{A B K:Int}(hA:0<A)(hB:0<B)(hK:A<K):A/B<K/\ -K<A/B/\A%B<K/\ -K<A%B:=by
 have h1:=Int.ediv_le_self (a:=A) B (by omega);have h2:0<=A/B:=Int.ediv_nonneg (by omega) (by omega);have h3:=Int.emod_nonneg A (show B≠0 by omega);have h5:=Int.emod_add_mul_ediv A B;have h6:0<=B*(A/B):=Int.mul_nonneg (by omega) h2;omega
theorem Li.p5{e:In}(h:Li w0 w (a::b::x::y::e::W)):Li w0 w (e::a::b::x::y::W):=h.perm (List.perm_middle (l₁:=[a,b,x,y]) (l₂:=W) (a:=e))
theorem In.lenq{B:Int}{w1 w2:World}(oa:InOk w1 a)(oq:InOk w2 q)(ha:0<a.v)(hB:0<B)(h:q.v=a.v/B):q.xs.length<=a.xs.length:=by
 obtain⟨a1,a2⟩:=In.abs oa;obtain⟨k1,k2,_⟩:=quo_bound ha hB a1;exact In.len oq (by rw[h];exact k1) (by rw[h];exact k2)
theorem In.lenp{w1 w2 w3:World}(ox:InOk w1 x)(oy:InOk w2 y)(oz:InOk w3 z)(h:z.v=x.v*y.v):z.xs.length<=x.xs.length+y.xs.length:=by
 obtain⟨a1,a2⟩:=In.abs ox;obtain⟨b1,b2⟩:=In.abs oy;obtain⟨m1,m2⟩:=mul_bound a1 a2 b1 b2;rw[<-Int.pow_add]at m1 m2;exact In.len oz (by rw[h];exact m1) (by rw[h];exact m2)
theorem eucUpd(h:Li w0 w (a::b::ua::ub::q::r::W))(hg:Gl w0)(ha0:0<a.v)(hb0:0<b.v)(ha9:a.xs.length<=400)(hb9:b.xs.length<=400)(hua9:ua.xs.length<=400)(hub9:ub.xs.length<=400)
 (hmin: ∀(wx:World) (q':In),InOk wx q'->q'.v=a.v/b.v->min q'.xs.length ub.xs.length<40):
 Calls Tryz.prog 122 #[a.pt,b.pt,ua.pt,ub.pt,q.pt,r.pt,.bool true] w fun e w'=> ∃ua' q' r',e= .returned (.tuple #[b.pt,r'.pt,a.pt,ub.pt,ua'.pt])/\ua'.p=ua.p/\q'.p=q.p/\r'.p=r.p/\r'.v=a.v%b.v/\ua'.v=ua.v-a.v/b.v*ub.v/\Li w0 w' (a::b::ua'::ub::q'::r'::W):=by
 obtain⟨pa,na,Aa,ba,oa,ca,as0⟩:=a;obtain⟨pb,nb,Ab,bb,ob,cb,bs⟩:=b;obtain⟨pu,nu,Au,bu,ou,cu,us⟩:=ua;obtain⟨pv,nv,Av,bv,ov,cv,vs⟩:=ub;obtain⟨pq,nq,Aq,bq,oq,cq,qs⟩:=q;obtain⟨pr,nr,Ar,br,or_,cr,rs⟩:=r;have H:=κ h;have HA:=κ ha0;have HB:=κ hb0;have HMIN:=κ hmin;simp only at ha9 hb9 hua9 hub9
 have p1:(⟨pa,na,Aa,ba,oa,ca,as0⟩::⟨pb,nb,Ab,bb,ob,cb,bs⟩::⟨pu,nu,Au,bu,ou,cu,us⟩::⟨pv,nv,Av,bv,ov,cv,vs⟩::⟨pq,nq,Aq,bq,oq,cq,qs⟩::⟨pr,nr,Ar,br,or_,cr,rs⟩::W).Perm (⟨pq,nq,Aq,bq,oq,cq,qs⟩::⟨pr,nr,Ar,br,or_,cr,rs⟩::⟨pa,na,Aa,ba,oa,ca,as0⟩::⟨pb,nb,Ab,bb,ob,cb,bs⟩::⟨pu,nu,Au,bu,ou,cu,us⟩::⟨pv,nv,Av,bv,ov,cv,vs⟩::W):=
  (List.perm_append_comm (l₁:=[(⟨pa,na,Aa,ba,oa,ca,as0⟩:In),⟨pb,nb,Ab,bb,ob,cb,bs⟩,⟨pu,nu,Au,bu,ou,cu,us⟩,⟨pv,nv,Av,bv,ov,cv,vs⟩]) (l₂:=[⟨pq,nq,Aq,bq,oq,cq,qs⟩,⟨pr,nr,Ar,br,or_,cr,rs⟩])).append_right W;have CQ:=κ (quoRemI (x:=⟨pa,na,Aa,ba,oa,ca,as0⟩) (y:=⟨pb,nb,Ab,bb,ob,cb,bs⟩) (h.perm p1) (by simp) (by simp) ha0 hb0 (by simp only;omega) (by simp only;omega) hg);have HG:=κ hg;have L1:=κ ha9;have L2:=κ hub9;have L3:=κ hua9;clear h ha0 hb0 hmin p1 ha9 hb9 hua9 hub9 hg;go_enter Tryz.func122,Tryz.ntmps122
 go_wp2_with (first
  |(go_at_call 89;refine(CQ.out).mono ?_;rintro e w1 ⟨rfl,⟨pq',nq',Aq',bq',oq',cq',qs'⟩,⟨pr',nr',Ar',br',or',cr',rs'⟩,hp,hp2,hv,hv2,hl⟩;simp only at hp hp2;have hp:=hp.symm;have hp2:=hp2.symm;subst hp hp2;have H1:=κ hl;have V1:=κ hv;have V2:=κ hv2;clear hl hv hv2)
  |(go_at_call 124;have Q9:=κ (In.lenq (H.out.ok ⟨pa,na,Aa,ba,oa,ca,as0⟩ (by simp)) (H1.out.ok ⟨pq,nq',Aq',bq',oq',cq',qs'⟩ (by simp)) HA.out HB.out V1.out);refine(mulIM (z:=⟨pq,nq',Aq',bq',oq',cq',qs'⟩) (y:=⟨pv,nv,Av,bv,ov,cv,vs⟩) H1.out (by simp) (by have h1:=Q9.out;have h2:=L1.out;simp only at h1 h2 ⊢;omega) (by have:=L2.out;simp only;omega) (HMIN.out _ _ (H1.out.ok ⟨pq,nq',Aq',bq',oq',cq',qs'⟩ (by simp)) V1.out) HG.out).mono ?_;rintro e w2 ⟨rfl,⟨pq2,nq2,Aq2,bq2,oq2,cq2,qs2⟩,hp,hv,hl⟩;simp only at hp;have hp:=hp.symm;subst hp;have H2:=κ hl;have V3:=κ hv;clear hl hv)
  |(go_at_call 83;have P9:=κ (In.lenp (H1.out.ok ⟨pq,nq',Aq',bq',oq',cq',qs'⟩ (by simp)) (H1.out.ok ⟨pv,nv,Av,bv,ov,cv,vs⟩ (by simp)) (H2.out.ok ⟨pq,nq2,Aq2,bq2,oq2,cq2,qs2⟩ (by simp)) V3.out);refine(subI (z:=⟨pu,nu,Au,bu,ou,cu,us⟩) (x:=⟨pu,nu,Au,bu,ou,cu,us⟩) (y:=⟨pq,nq2,Aq2,bq2,oq2,cq2,qs2⟩) H2.out.p5 (by simp) (by simp) (by have:=L3.out;simp only;omega) (by have h1:=Q9.out;have h2:=L1.out;have h3:=P9.out;have h4:=L2.out;simp only at h1 h2 h3 h4 ⊢;omega)).mono ?_;rintro e w3 ⟨rfl,⟨pu3,nu3,Au3,bu3,ou3,cu3,us3⟩,hp,hv,hl⟩;simp only at hp;have hp:=hp.symm;subst hp;have H3:=κ hl;have V4:=κ hv;clear hl hv));refine bodyPost_ret (v:= .tuple #[.pointer (some ⟨pb,0,none⟩),.pointer (some ⟨pr,0,none⟩),.pointer (some ⟨pa,0,none⟩),.pointer (some ⟨pv,0,none⟩),.pointer (some ⟨pu,0,none⟩)]) (by simp[results,Tryz.results122,go_sem,In.pt];done) rfl ?_;refine⟨⟨pu,nu3,Au3,bu3,ou3,cu3,us3⟩,⟨pq,nq2,Aq2,bq2,oq2,cq2,qs2⟩,⟨pr,nr',Ar',br',or',cr',rs'⟩,rfl,rfl,rfl,rfl,V2.out,by rw[V4.out,V3.out,V1.out],H3.out.perm ?_⟩;generalize(⟨pu,nu3,Au3,bu3,ou3,cu3,us3⟩:In)=U;generalize(⟨pq,nq2,Aq2,bq2,oq2,cq2,qs2⟩:In)=Q;generalize(⟨pr,nr',Ar',br',or',cr',rs'⟩:In)=R;generalize(⟨pa,na,Aa,ba,oa,ca,as0⟩:In)=X;generalize(⟨pb,nb,Ab,bb,ob,cb,bs⟩:In)=Y;generalize(⟨pv,nv,Av,bv,ov,cv,vs⟩:In)=Z
 have h:[U,Q,R,X,Y,Z].Perm [X,Y,U,Z,Q,R]:=by
  have h1:[U,Q,R,X,Y,Z].Perm [U,X,Y,Z,Q,R]:=(List.perm_append_comm (l₁:=[Q,R]) (l₂:=[X,Y,Z])).cons U;exact h1.trans (List.perm_append_comm (l₁:=[U]) (l₂:=[X,Y]) |>.append_right [Z,Q,R])
 exact h.append_right W
end
end Go.Proofs.YthecibbmbnpegaaGreatDoor
namespace Go.Big
theorem or_parts{a b:Int}{s:Nat}(ha:0<=a)(hb:0<=b)(hb1:b<2^s)(hlt:a*2^s+b<18446744073709551616)(ha1:a*2^s<18446744073709551616)(hb2:b<18446744073709551616):bits .or .u64 (a*2^s) b=a*2^s+b:=by
 obtain⟨m,rfl⟩:=Int.eq_ofNat_of_zero_le ha;obtain⟨n,rfl⟩:=Int.eq_ofNat_of_zero_le hb;have e:((m:Int)*2^s)=((m*2^s:Nat):Int):=by push_cast;rfl
 have hn:n<2^s:=by
  have e2:((2^s:Nat):Int)=2^s:=by push_cast;rfl
  omega
 rw[e]at ha1 hlt ⊢
 rw[u64_or_nat _ _ (by omega) (by omega)];have:=Nat.shiftLeft_add_eq_or_of_lt hn m;rw[Nat.shiftLeft_eq]at this;rw[<-this];push_cast;rfl
theorem top_pair{xs:List Int}(hd:DG 18446744073709551616 xs)(hn:2<=xs.length){h:Nat}(hh:h<=63):val 18446744073709551616 xs/2^(64*(xs.length-1)-h)=xs.getD (xs.length-1) 0*2^h+xs.getD (xs.length-2) 0/2^(64-h):=by
 obtain⟨k,hk⟩: ∃k,xs.length=k+2:=⟨xs.length-2,by omega⟩;rw[hk,show k+2-1=k+1 by omega,show k+2-2=k by omega];have h1:=val_take_succ' 18446744073709551616 xs (k+1);have h2:=val_take_succ' 18446744073709551616 xs k;rw[List.take_of_length_le (by omega),h2]at h1;have lo:=val_lt (B:=18446744073709551616) (by omega) (hd.take k);have lo0:=val_nonneg (B:=18446744073709551616) (by omega) (hd.take k);rw[List.length_take,Nat.min_eq_left (by omega)]at lo;generalize val 18446744073709551616 (xs.take k)=l0 at*;generalize xs.getD (k+1) 0=t at*;generalize xs.getD k 0=x at*;have hP:=pow_pos_ (B:=18446744073709551616) (by omega) k
 have e1:(2:Int)^(64*(k+1)-h)=18446744073709551616^k*2^(64-h):=by
  rw[show(18446744073709551616:Int)=2^64 from rfl,<- Int.pow_mul,<- Int.pow_add];congr 1;omega
 have e2:(18446744073709551616:Int)=2^(64-h)*2^h:=by
  rw[<-Int.pow_add,show 64-h+h=64 by omega];rfl
 have hQ:=pow_pos_ (B:=2) (by omega) (64-h)
 have h3:val 18446744073709551616 xs=l0+18446744073709551616^k*(x+18446744073709551616*t):=by
  rw[h1,Int.pow_succ];grind
 rw[h3,e1,<- Int.ediv_ediv_of_nonneg (by omega),Int.add_mul_ediv_left _ _ (by omega),Int.ediv_eq_zero_of_lt lo0 lo,Int.zero_add]
 have h4:x+18446744073709551616*t=x+2^(64-h)*(t*2^h):=by
  rw[e2];grind
 rw[h4,Int.add_mul_ediv_left _ _ (by omega)];omega
theorem top_less{ys:List Int}{n h:Nat}(hd:DG 18446744073709551616 ys)(hl:ys.length+1=n)(hl2:2<=ys.length)(hh:h<=63):val 18446744073709551616 ys/2^(64*(n-1)-h)=ys.getD (n-2) 0/2^(64-h):=by
 have hv:val 18446744073709551616 (ys++[0])=val 18446744073709551616 ys:=by rw[val_snoc,Int.mul_zero,Int.add_zero]
 have hL:(ys++[0]).length=n:=by simp;omega
 have h1:=top_pair (xs:=ys++[0]) (hd.append (DG.cons (by omega) (by omega) (DG.nil _))) (by omega) hh;rw[hv,hL]at h1
 have e1:(ys++[0]).getD (n-1) 0=0:=by
  rw[List.getD_eq_getElem?_getD,List.getElem?_append_right (by omega)];simp[show n-1-ys.length=0 by omega]
 have e2:(ys++[0]).getD (n-2) 0=ys.getD (n-2) 0:=by
  simp only[List.getD_eq_getElem?_getD];rw[List.getElem?_append_left (by omega)]
 rw[h1,e1,e2,Int.zero_mul,Int.zero_add]
theorem top_none{ys:List Int}{n h:Nat}(hd:DG 18446744073709551616 ys)(hl:ys.length+2<=n)(hh:h<=63):val 18446744073709551616 ys/2^(64*(n-1)-h)=0:=by
 refine Int.ediv_eq_zero_of_lt (val_nonneg (by omega) hd) ?_;have h1:=val_lt (B:=18446744073709551616) (by omega) hd;have h2:(18446744073709551616:Int)^ys.length=2^(64*ys.length):=by rw[show(18446744073709551616:Int)=2^64 from rfl,<- Int.pow_mul]
 have h3:=pow_le_pow_ (B:=2) (by omega) (show 64*ys.length<=64*(n-1)-h by omega);omega
end Go.Big
namespace Go.Proofs.YthecibbmbnpegaaGreatDoor
open Go.Big Go.RowKit
def LsP(X Y:Int)(w:World)(e:Ending)(w':World):Prop:=
 ∃(u0 u1 v0 v1:Int) (b:Bool),e= .returned (.tuple #[.int .u64 u0,.int .u64 u1,.int .u64 v0,.int .u64 v1,.bool b])/\(0<=u0/\u0<18446744073709551616)/\(0<=u1/\u1<18446744073709551616)/\(0<=v0/\v0<18446744073709551616)/\(0<=v1/\v1<18446744073709551616)/\(v0≠0->LeM X Y u0 u1 v0 v1 (if b then 1 else -1))/\Fr [] w w'
def LsR(h1 h2:Int)(w:World)(g:Nat)(s4 s5 s6 s7 s8 s9 s10 s11 s12:Value)(wx:World):Prop:=
 ∃(u0 u1 u2 v0 v1 v2 a1 a2:Int) (b:Bool),s4= .int .u64 u0/\s5= .int .u64 u1/\s11= .int .u64 u2/\s6= .int .u64 v0/\s7= .int .u64 v1/\s12= .int .u64 v2/\s9= .int .u64 a1/\s10= .int .u64 a2/\s8= .bool b/\
  (0<=u0/\u0<18446744073709551616)/\(u1<18446744073709551616/\u2<18446744073709551616)/\(0<=v0/\v0<18446744073709551616)/\(v1<18446744073709551616/\v2<18446744073709551616)/\a1<=h1/\
  SmI h1 h2 a1 a2 u1 u2 v1 v2 (if b then -1 else 1)/\SmP h1 h2 a1 u0 u1 v0 v1 (if b then -1 else 1)/\(v1=0\/(u1<=u2/\v1<=v2))/\g=a2.toNat/\Fr [] w wx
theorem ls_fin{X Y T h1 h2 a1 u0 u1 v0 v1:Int}{b:Bool}{w w':World}(P:SmP h1 h2 a1 u0 u1 v0 v1 (if b then -1 else 1))(hT:0<T)(e1:h1=X/T)(e2:h2=Y/T)(bu0:0<=u0/\u0<18446744073709551616)(bu1:0<=u1/\u1<18446744073709551616)(bv0:0<=v0/\v0<18446744073709551616)(bv1:0<=v1/\v1<18446744073709551616)(f:Fr [] w w'):
 LsP X Y w (.returned (.tuple #[.int .u64 u0,.int .u64 u1,.int .u64 v0,.int .u64 v1,.bool b])) w':=
 ⟨u0,u1,v0,v1,b,rfl,bu0,bu1,bv0,bv1,fun hv=>by
   have:=P.mat (by cases b<;>simp) hv hT e1 e2;cases b<;>simpa using this,f⟩
section
variable {w:World}{pa pb n m ba oa ca bb ob cb:Nat}{na nb:Bool}{xs ys:List Int}
theorem lehSim(ha:InOk w ⟨pa,na,some ⟨ba,oa,none⟩,ba,oa,ca,xs⟩)(hb:InOk w ⟨pb,nb,some ⟨bb,ob,none⟩,bb,ob,cb,ys⟩)(hn:n=xs.length)(hm:m=ys.length)(hm2:2<=m)(hn9:n<=800)(hle:val 18446744073709551616 ys<=val 18446744073709551616 xs):
 Calls Tryz.prog 120 #[.pointer (some ⟨pa,0,none⟩),.pointer (some ⟨pb,0,none⟩)] w (LsP (val 18446744073709551616 xs) (val 18446744073709551616 ys) w):=by
 have hmn:m<=n:=by
  rcases Nat.lt_or_ge n m with h|h
  ·have:=lt_of_shorter (by omega) ha.dg hb.dg hb.nz (by simp only;omega)
   simp only at this;omega
  ·exact h
 have a1:=ha.ib.cell1;have b1:=hb.ib.cell1;have hca:=ha.nm.le;have hcb:=hb.nm.le;have hca9:=ha.c9;have hcb9:=hb.c9;simp only at a1 b1 hca hcb hca9 hcb9;rw[<-hn]at a1 hca;rw[<-hm]at b1 hcb;obtain⟨t,ht⟩: ∃t,t=xs.getD (n-1) 0:=⟨_,rfl⟩;obtain⟨x,hx⟩: ∃x,x=xs.getD (n-2) 0:=⟨_,rfl⟩
 have ct:w.cell? ⟨ba,oa+(n-1),none⟩=some (.int .u64 t):=by
  have:=ha.nm.2.2 (by simp only;omega) (n-1) (by simp only;omega);rw[ht];exact this
 have cx:w.cell? ⟨ba,oa+(n-2),none⟩=some (.int .u64 x):=by
  have:=ha.nm.2.2 (by simp only;omega) (n-2) (by simp only;omega);rw[hx];exact this
 obtain⟨n1,hn1⟩: ∃n1,n1=n-1:=⟨_,rfl⟩;obtain⟨n2,hn2⟩: ∃n2,n2=n-2:=⟨_,rfl⟩;have e1:(n:Int)-1=(n1:Int):=by omega
 have e2:(n:Int)-2=(n2:Int):=by omega
 have e3:IntKind.i64.wrap (n1:Int)=(n1:Int):=by rw[IntKind.wrap_i64];omega
 have e4:IntKind.i64.wrap (n2:Int)=(n2:Int):=by rw[IntKind.wrap_i64];omega
 have e5:(n1:Int)<(n:Int):=by omega
 have e6:(n2:Int)<(n:Int):=by omega
 rw[<-hn1]at ct;rw[<-hn2]at cx;obtain⟨t0,t1⟩:=ha.dg.getD (by omega) (n-1);obtain⟨x0,x1⟩:=ha.dg.getD (by omega) (n-2);simp only at t0 t1 x0 x1;rw[<-ht]at t0 t1;rw[<-hx]at x0 x1
 have htne:t≠0:=by
  have h:=ha.nz;simp only at h;rcases h with h|h
  ·rw[h]at hn;simp at hn;omega
  ·rw[ht,hn];exact h
 have HA:=κ ha;have HB:=κ hb;have HN:=κ hn;have HM:=κ hm;have HT:=κ ht;have HX:=κ hx;have HLE:=κ hle;have ht':=ht;have hx':=hx;have hn':=hn;have HN1:=κ hn1;have HN2:=κ hn2;have HTN:=κ htne;have HT':=κ ht';have HX':=κ hx';have HN':=κ hn';clear ha hb hn hm ht hx hle hn1 hn2 htne ht' hx' hn';go_enter Tryz.func120,Tryz.ntmps120;go_upto_region 5 with(go_at_call 69;refine(nlz_any t _ t0 t1).mono ?_;rintro e w1 ⟨⟨L,rfl,hL,hL9⟩,rfl⟩;have HL:=κ hL;clear hL);have hL:=HL.out
 have hL1:1<=L:=by
  rcases hL with⟨h,_⟩|⟨h,_⟩
  ·exact absurd h HTN.out
  ·exact h
 obtain⟨h,hh⟩: ∃h,h=64-L:=⟨_,rfl⟩;have hh63:h<=63:=by omega
 have f1:(64:Int)-(L:Int)=(h:Int):=by omega
 have f2:(64:Int)-(h:Int)=(L:Int):=by omega
 have f3:IntKind.u64.wrap (L:Int)=(L:Int):=by rw[IntKind.wrap_u64];omega
 have f4:IntKind.u64.wrap (h:Int)=(h:Int):=by rw[IntKind.wrap_u64];omega
 obtain⟨P,hP⟩: ∃P:Int,P=2^h:=⟨_,rfl⟩;obtain⟨P2,hP2⟩: ∃P2:Int,P2=2^L:=⟨_,rfl⟩;have g1:(2:Int)^h=P:=hP.symm;have g2:(2:Int)^L=P2:=hP2.symm;have g3:min h 64=h:=by omega
 have g4:min L 64=L:=by omega
 have HP:=κ hP;have HP2:=κ hP2;have HH:=κ hh;have ht':=HT'.out;have hx':=HX'.out;have hn':=HN'.out
 have tl:t<2^L:=by
  rcases hL with⟨h,_⟩|⟨_,_,h⟩
  ·exact absurd h HTN.out
  ·exact h
 have hh0:h=64-L:=hh;obtain⟨H1,hH1⟩: ∃H1,H1=val 18446744073709551616 xs/2^(64*(n-1)-h):=⟨_,rfl⟩;obtain⟨H2,hH2⟩: ∃H2,H2=val 18446744073709551616 ys/2^(64*(n-1)-h):=⟨_,rfl⟩;have hTp:=pow_pos_ (B:=2) (by omega) (64*(n-1)-h);have h64:P*P2=18446744073709551616:=by rw[hP,hP2,<- Int.pow_add,show h+L=64 by omega];rfl
 have hPp:0<P:=by rw[hP];exact pow_pos_ (by omega) h
 have hP2p:0<P2:=by rw[hP2];exact pow_pos_ (by omega) L
 have hx2:=Int.ediv_nonneg x0 (Int.le_of_lt hP2p);have hx3:x/P2<P:=Int.ediv_lt_of_lt_mul hP2p (by omega);have htp:t*P<=(P2-1)*P:=Int.mul_le_mul_of_nonneg_right (by rw[hP2];omega) (by omega);have htp2:(P2-1)*P=18446744073709551616-P:=by rw[<-h64];grind
 have htp0:0<=t*P:=Int.mul_nonneg t0 (by omega)
 have hH1e:H1=t*P+x/P2:=by
  rw[hH1,hP,hP2,ht',hx',show L=64-h by omega,hn'];exact top_pair HA.out.dg (by simp only;omega) hh63
 have hwt:IntKind.u64.wrap (t*P)=t*P:=by rw[IntKind.wrap_u64];omega
 have hor:bits .or .u64 (t*P) (x/P2)=H1:=by
  rw[hH1e,hP];exact or_parts t0 hx2 (by rw[<-hP];exact hx3) (by rw[<-hP];omega) (by rw[<-hP];omega) (by have:=Int.ediv_le_self P2 x0;omega)
 have hH1b:0<=H1/\H1<18446744073709551616:=by omega
 have hH20:0<=H2:=by rw[hH2];exact Int.ediv_nonneg (val_nonneg (by omega) HB.out.dg) (by omega)
 have hH21:H2<=H1:=by rw[hH2,hH1];exact Int.ediv_le_ediv hTp HLE.out
 have HH1:=κ hH1;have HH2:=κ hH2;have HTP:=κ hTp;have HPP:=κ hPp;have HPP2:=κ hP2p;obtain⟨hH10,hH11⟩:=hH1b;clear hL hh hP hP2 tl hh0 hH1 hH2 hTp h64 hPp hP2p hx2 hx3 htp htp2 htp0 hH1e ht' hx' hn';go_quiet (fail);go_upto_block 0 with fail;go_cut [10]from 59 to 100 (fun v10 wx=>v10= .int .u64 H2/\Fr [] w wx)
 case first=>
  by_cases hnm:n=m
  ·obtain⟨tb,htb⟩: ∃tb,tb=ys.getD (n-1) 0:=⟨_,rfl⟩
   obtain⟨xb,hxb⟩: ∃xb,xb=ys.getD (n-2) 0:=⟨_,rfl⟩;have hmy:=HM.out
   have cb1:w.cell? ⟨bb,ob+n1,none⟩=some (.int .u64 tb):=by
    have:=HB.out.nm.2.2 (by simp only;omega) n1 (by simp only;have:=HN1.out;omega);rw[htb,<- HN1.out];exact this
   have cb2:w.cell? ⟨bb,ob+n2,none⟩=some (.int .u64 xb):=by
    have:=HB.out.nm.2.2 (by simp only;omega) n2 (by simp only;have:=HN2.out;omega);rw[hxb,<- HN2.out];exact this
   have tb0:=(HB.out.dg.getD (by omega) (n-1)).1;have xb0:=(HB.out.dg.getD (by omega) (n-2)).1;have xb1:=(HB.out.dg.getD (by omega) (n-2)).2;have tb1:=(HB.out.dg.getD (by omega) (n-1)).2;simp only at tb0 xb0 xb1 tb1;rw[<-htb]at tb0 tb1;rw[<-hxb]at xb0 xb1
   have hH2e:H2=tb*P+xb/P2:=by
    rw[HH2.out,HP.out,HP2.out,htb,hxb,show L=64-h by have:=HH.out;omega,hnm,HM.out];exact top_pair HB.out.dg (by simp only;omega) hh63
   have hx2:=Int.ediv_nonneg xb0 (Int.le_of_lt HPP2.out);have htp0:0<=tb*P:=Int.mul_nonneg tb0 (Int.le_of_lt HPP.out);have hwtB:IntKind.u64.wrap (tb*P)=tb*P:=by rw[IntKind.wrap_u64];omega
   have h64:P*P2=18446744073709551616:=by rw[HP.out,HP2.out,<- Int.pow_add,show h+L=64 by have:=HH.out;omega];rfl
   have hx3:xb/P2<P:=Int.ediv_lt_of_lt_mul HPP2.out (by omega)
   have horB:bits .or .u64 (tb*P) (xb/P2)=H2:=by
    rw[hH2e,HP.out];exact or_parts tb0 hx2 (by rw[<-HP.out];exact hx3) (by rw[<-HP.out];omega) (by rw[<-HP.out];omega) (by have:=Int.ediv_le_self P2 xb0;omega)
   have k1:(n1:Int)<(m:Int):=by have:=HN1.out;omega
   have k2:(n2:Int)<(m:Int):=by have:=HN2.out;omega
   have hd:((n:Int)==(m:Int))=true:=by rw[beq_iff_eq];omega
   clear htb hxb hmy hH2e hx2 htp0 h64 hx3 hnm;go_wp2_with fail;go_quiet (fail);go_wp2_with fail;go_meet;exact⟨rfl,⟨rfl,rfl,rfl,Nat.le_refl _,fun _ _ _=>rfl⟩⟩
  ·have hd:((n:Int)==(m:Int))=false:=by rw[beq_eq_false_iff_ne];omega
   by_cases hnm1:n=m+1
   ·obtain⟨xb,hxb⟩: ∃xb,xb=ys.getD (n-2) 0:=⟨_,rfl⟩
    have cb2:w.cell? ⟨bb,ob+n2,none⟩=some (.int .u64 xb):=by
     have:=HB.out.nm.2.2 (by simp only;have:=HM.out;omega) n2 (by simp only;have:=HN2.out;have:=HM.out;omega);rw[hxb,<- HN2.out];exact this
    have xb0:=(HB.out.dg.getD (by omega) (n-2)).1;have xb1:=(HB.out.dg.getD (by omega) (n-2)).2;simp only at xb0 xb1;rw[<-hxb]at xb0 xb1
    have hB:xb/P2=H2:=by
     rw[HH2.out,HP2.out,hxb,show L=64-h by have:=HH.out;omega];exact(top_less HB.out.dg (by simp only;have:=HM.out;omega) (by simp only;have:=HM.out;omega) hh63).symm
    have k2:(n2:Int)<(m:Int):=by have:=HN2.out;omega
    have hd2:((n:Int)==(m:Int)+1)=true:=by rw[beq_iff_eq];omega
    clear hxb hnm hnm1;go_wp2_with fail;go_meet;exact⟨rfl,⟨rfl,rfl,rfl,Nat.le_refl _,fun _ _ _=>rfl⟩⟩
   ·have hd2:((n:Int)==(m:Int)+1)=false:=by rw[beq_eq_false_iff_ne];omega
    have hH20':H2=0:=by
     rw[HH2.out];exact top_none HB.out.dg (by have:=HM.out;omega) hh63
    have HH20:=κ hH20';clear hnm hnm1 hH20';go_wp2_with fail;go_meet;exact⟨by rw[HH20.out],⟨rfl,rfl,rfl,Nat.le_refl _,fun _ _ _=>rfl⟩⟩
 case rest=>
  obtain⟨rfl,fC⟩:=hcut;obtain⟨wc2,hwc⟩: ∃wq,wq=wc:=⟨_,rfl⟩;subst hwc;have FC:=κ fC;clear fC hor hwt;go_wp2_with fail;go_loopg [4,5,6,7,8,9,10,11,12] H2.toNat (LsR H1 H2 w);case atStart=>exact⟨0,1,0,0,0,1,H1,H2,false,rfl,rfl,rfl,rfl,rfl,rfl,rfl,rfl,rfl,⟨by omega,by omega⟩,⟨by omega,by omega⟩,⟨by omega,by omega⟩,⟨by omega,by omega⟩,by omega,SmI.start hH20 hH21,.inl rfl,.inl rfl,rfl,FC.out⟩
  case round=>
   obtain⟨u0,u1,u2,v0,v1,v2,a1,a2,b,rfl,rfl,rfl,rfl,rfl,rfl,rfl,rfl,rfl,bu0,bu,bv0,bv,ba1,I,Pv,hmn',hg,f⟩:=hrel;obtain⟨u00,u01⟩:=bu0;obtain⟨u11,u21⟩:=bu;obtain⟨v00,v01⟩:=bv0;obtain⟨v11,v21'⟩:=bv;have a20:=I.a20;have a12:=I.a12;have u10:=I.u10;have u20:=I.u20;have v10:=I.v10;have v21:=I.v21;have HI:=κ I;have HPv:=κ Pv;have HMN:=κ hmn';have F:=κ f;have HG:=κ hg;have a11:a1<18446744073709551616:=by omega
   by_cases hc1:v2<=a2
   ·have hfit:=I.fits (by omega)
    have hd1:decide (v2<=a2)=true:=decide_eq_true hc1;by_cases hc2:v1+v2<=a1-a2
    ·have hd2:decide (v1+v2<=a1-a2)=true:=decide_eq_true hc2
     obtain⟨q,hq⟩: ∃q,q=a1/a2:=⟨_,rfl⟩;obtain⟨r,hr⟩: ∃r,r=a1%a2:=⟨_,rfl⟩;have hS:=I.step (by omega) hq hr;have hPr:=κ (I.prev (q:=0) hc1 hc2 hmn');have q1:a1/a2=q:=hq.symm;have r1:a1%a2=r:=hr.symm;have q2:a1.tdiv a2=q:=by rw[Int.tdiv_eq_ediv_of_nonneg (by omega)];exact q1
     have r2:a1.tmod a2=r:=by rw[Int.tmod_eq_emod_of_nonneg (by omega)];exact r1
     obtain⟨I',hq1,hfit2,huv,hqu,hqv,hmu,hmv⟩:=hS;have r0:=I'.a20;have hra:r<a2:=by rw[hr];exact Int.emod_lt_of_pos _ (by omega)
     obtain⟨qu,hqu'⟩: ∃qu,qu=q*u2:=⟨_,rfl⟩;obtain⟨qv,hqv'⟩: ∃qv,qv=q*v2:=⟨_,rfl⟩;rw[<-hqu']at huv hqu hmu I';rw[<-hqv']at hfit2 huv hqv hmv I';have w1:IntKind.u64.wrap (q*u2)=qu:=by rw[IntKind.wrap_u64,<- hqu'];omega
     have w2:IntKind.u64.wrap (q*v2)=qv:=by rw[IntKind.wrap_u64,<- hqv'];omega
     have w3:IntKind.u64.wrap (u1+qu)=u1+qu:=by rw[IntKind.wrap_u64];omega
     have w4:IntKind.u64.wrap (v1+qv)=v1+qv:=by rw[IntKind.wrap_u64];omega
     have hq0:0<=q:=by omega
     have hqlt:q<18446744073709551616:=by
      have h1:q*1<=q*v2:=Int.mul_le_mul_of_nonneg_left v21 hq0;rw[<-hqv']at h1;omega
     have w5:IntKind.u64.wrap q=q:=by rw[IntKind.wrap_u64,Int.emod_eq_of_lt hq0 hqlt]
     have hqu64:qu<18446744073709551616:=by omega
     have hqv64:qv<18446744073709551616:=by omega
     have HI':=κ I';have hne:(a2==0)=false:=by rw[beq_eq_false_iff_ne];omega
     have ha2:0<a2:=by omega
     clear I Pv hmn' f hg hq hr I' hqu' hqv' hc1 hc2;go_upto_region 15 with fail;go_quiet (fail);go_wp2_with fail;go_roundg r.toNat;case measure=>have:=HG.out;omega
     case rel=>
      refine⟨u1,u2,u1+qu,v1,v2,v1+qv,a2,r,!b,rfl,rfl,rfl,rfl,rfl,rfl,rfl,rfl,rfl,⟨u10,u11⟩,⟨u21,by omega⟩,⟨v10,v11⟩,⟨v21',by omega⟩,by omega,?_,?_,.inr ⟨hmu,hmv⟩,rfl,⟨F.out.os,F.out.tape,F.out.output,F.out.size,F.out.block⟩⟩
      ·have:=HI'.out;cases b<;>simpa using this
      ·have:=hPr.out;cases b<;>simpa using this
    ·have hd2:decide (v1+v2<=a1-a2)=false:=decide_eq_false hc2
     clear I Pv hmn' f hg hc1 hc2;go_wp2_with fail;exact bodyPost_ret (v:= .tuple #[.int .u64 u0,.int .u64 u1,.int .u64 v0,.int .u64 v1,.bool b]) (by simp[results,Tryz.results120,go_sem]) rfl (ls_fin HPv.out HTP.out HH1.out HH2.out ⟨u00,u01⟩ ⟨u10,u11⟩ ⟨v00,v01⟩ ⟨v10,v11⟩ F.out)
   ·have hd1:decide (v2<=a2)=false:=decide_eq_false hc1
    clear I Pv hmn' f hg hc1;go_wp2_with fail;exact bodyPost_ret (v:= .tuple #[.int .u64 u0,.int .u64 u1,.int .u64 v0,.int .u64 v1,.bool b]) (by simp[results,Tryz.results120,go_sem]) rfl (ls_fin HPv.out HTP.out HH1.out HH2.out ⟨u00,u01⟩ ⟨u10,u11⟩ ⟨v00,v01⟩ ⟨v10,v11⟩ F.out)
end
end Go.Proofs.YthecibbmbnpegaaGreatDoor
