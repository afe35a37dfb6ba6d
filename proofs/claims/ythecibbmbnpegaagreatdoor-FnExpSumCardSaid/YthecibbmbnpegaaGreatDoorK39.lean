/-
  Part 39 of the proof of the law FnExpSum: XLeU, XDivZ. Conditions: those of each statement.
-/
import Derived.Test.YthecibbmbnpegaaGreatDoorK38
import Derived.Laws.Bits64
import Derived.Deep.DeepCutAuto
import Derived.Deep.RegionWith
set_option linter.unusedSimpArgs false
set_option linter.unusedVariables false
set_option maxRecDepth 100000
set_option maxHeartbeats 4000000
namespace Go.Proofs.YthecibbmbnpegaaGreatDoor
open Go.Big Go.RowKit
section
variable {w0 w w':World}{W:List In}{a b c d x y z:In}{V:Int}
theorem Li.p2(h:Li w0 w (a::b::W)):Li w0 w (b::a::W):=h.perm (List.Perm.swap b a W)
theorem Li.p3(h:Li w0 w (a::b::c::W)):Li w0 w (c::a::b::W):=h.perm (List.perm_middle (l₁:=[a,b]) (l₂:=W) (a:=c))
theorem Li.p4(h:Li w0 w (a::b::c::d::W)):Li w0 w (d::a::b::c::W):=h.perm (List.perm_middle (l₁:=[a,b,c]) (l₂:=W) (a:=d))
theorem In.len{k:Nat}(h:InOk w x)(h1:x.v<18446744073709551616^k)(h2: -(18446744073709551616^k)<x.v):x.xs.length<=k:=by
 refine len_le (by omega) h.dg h.nz ?_;unfold In.v sg at h1 h2;split at h1<;>split at h2<;>omega
theorem In.abs(h:InOk w x):x.v<18446744073709551616^x.xs.length/\ -(18446744073709551616^x.xs.length)<x.v:=by
 have h1:=val_lt (B:=18446744073709551616) (by omega) h.dg;have h2:=val_nonneg (B:=18446744073709551616) (by omega) h.dg;unfold In.v sg;split<;>omega
theorem sg_bound{ng:Bool}{u:Int}(h0:0<=u)(h1:u<18446744073709551616):sg ng u<18446744073709551616/\ -18446744073709551616<sg ng u:=by
 unfold sg;split<;>omega
theorem mul_bound{p q B C:Int}(h1:p<B)(h2: -B<p)(h3:q<C)(h4: -C<q):p*q<B*C/\ -(B*C)<p*q:=by
 have hB:0<B:=by omega
 have hC:0<C:=by omega
 have e1:p.natAbs<B.natAbs:=by omega
 have e2:q.natAbs<C.natAbs:=by omega
 have e3:(p*q).natAbs<(B*C).natAbs:=by
  rw[Int.natAbs_mul,Int.natAbs_mul];exact Nat.mul_lt_mul_of_lt_of_le (by omega) (by omega) (by omega)
 have e4:0<B*C:=Int.mul_pos hB hC;omega
theorem In.len_mul{k:Nat}{u:Int}(h:InOk w x)(hy:InOk w' y)(hl:x.xs.length<=k)(hv:y.v=x.v*u)(h1:u<18446744073709551616)(h2: -18446744073709551616<u):y.xs.length<=k+1:=by
 obtain⟨a1,a2⟩:=In.abs h;have hk:=pow_le_pow_ (B:=18446744073709551616) (by omega) hl;obtain⟨m1,m2⟩:=mul_bound (p:=x.v) (q:=u) (B:=18446744073709551616^k) (C:=18446744073709551616) (by omega) (by omega) h1 h2;rw[<-Int.pow_succ]at m1 m2;exact In.len hy (by rw[hv];exact m1) (by rw[hv];exact m2)
theorem lehUpd(ev:Bool){u0 u1 v0 v1:Int}(h:Li w0 w (a::b::c::d::W))(ha:a.xs.length<=800)(hb:b.xs.length<=800)(hu0:0<=u0/\u0<18446744073709551616)(hu1:0<=u1/\u1<18446744073709551616)(hv0:0<=v0/\v0<18446744073709551616)(hv1:0<=v1/\v1<18446744073709551616):
 Calls Tryz.prog 121 #[a.pt,b.pt,c.pt,d.pt,.int .u64 u0,.int .u64 u1,.int .u64 v0,.int .u64 v1,.bool ev] w fun e w'=>e= .returned (.tuple #[])/\ ∃a' b' c' d',a'.p=a.p/\b'.p=b.p/\c'.p=c.p/\d'.p=d.p/\a'.v=a.v*sg (!ev) u0+b.v*sg ev v0/\b'.v=b.v*sg (!ev) v1+a.v*sg ev u1/\Li w0 w' (a'::b'::c'::d'::W):=by
 obtain⟨pa,na,Aa,ba,oa,ca,as0⟩:=a;obtain⟨pb,nb,Ab,bb,ob,cb,bs⟩:=b;obtain⟨pc,nc,Ac,bc,oc,cc,cs⟩:=c;obtain⟨pd,nd,Ad,bd,od,cd,ds⟩:=d;have H:=κ h;have T1:True:=trivial;have T2:True:=trivial;have T3:True:=trivial;have T4:True:=trivial;have T5:True:=trivial;have T6:True:=trivial;have sbu0:=κ (sg_bound (ng:= !ev) hu0.1 hu0.2);have sbu1:=κ (sg_bound (ng:=ev) hu1.1 hu1.2);have sbv0:=κ (sg_bound (ng:=ev) hv0.1 hv0.2);have sbv1:=κ (sg_bound (ng:= !ev) hv1.1 hv1.2);have HU0:=κ hu0;have HU1:=κ hu1;have HV0:=κ hv0;have HV1:=κ hv1;simp only at ha hb;have HA:=κ ha;have HB:=κ hb;clear h ha hb hu0 hu1 hv0 hv1;go_enter Tryz.func121,Tryz.ntmps121
 go_wp2_with (first
  |(go_at_call 123;clear T1;refine(mulWI (x:=⟨pb,nb,Ab,bb,ob,cb,bs⟩) ev H.out.p3 (by simp) (by have:=HB.out;simp only;omega) HV0.out.1 HV0.out.2).mono ?_;rintro e w1 ⟨rfl,⟨pc',nc',Ac',bc',oc',cc',cs'⟩,hp,hv,hl⟩;simp only at hp;have hp:=hp.symm;subst hp;have H1:=κ hl.p4;have V1:=κ hv;clear hl hv)
  |(go_at_call 123;clear T2;refine(mulWI (x:=⟨pa,na,Aa,ba,oa,ca,as0⟩) ev H1.out (by simp) (by have:=HA.out;simp only;omega) HU1.out.1 HU1.out.2).mono ?_;rintro e w2 ⟨rfl,⟨pd',nd',Ad',bd',od',cd',ds'⟩,hp,hv,hl⟩;simp only at hp;have hp:=hp.symm;subst hp;have H2:=κ hl.p3;have V2:=κ hv;clear hl hv)
  |(go_at_call 123;clear T3;refine(mulWJ (!ev) H2.out (by have:=HA.out;simp only;omega) HU0.out.1 HU0.out.2).mono ?_;rintro e w3 ⟨rfl,⟨pa',na',Aa',ba',oa',ca',xs0'⟩,hp,hv,hl⟩;simp only at hp;have hp:=hp.symm;subst hp;have H3:=κ hl.p4;have V3:=κ hv;clear hl hv)
  |(go_at_call 123;clear T4;refine(mulWJ (!ev) H3.out (by have:=HB.out;simp only;omega) HV1.out.1 HV1.out.2).mono ?_;rintro e w4 ⟨rfl,⟨pb',nb',Ab',bb',ob',cb',bs'⟩,hp,hv,hl⟩;simp only at hp;have hp:=hp.symm;subst hp;have H4:=κ hl.p2;have V4:=κ hv;clear hl hv)
  |(go_at_call 63;clear T5;refine(addI (x:=⟨pa,na',Aa',ba',oa',ca',xs0'⟩) (y:=⟨pc,nc',Ac',bc',oc',cc',cs'⟩) H4.out (by simp) (by simp) (by have h1:=In.len_mul (H.out.ok ⟨pa,na,Aa,ba,oa,ca,as0⟩ (by simp)) (H4.out.ok ⟨pa,na',Aa',ba',oa',ca',xs0'⟩ (by simp)) HA.out V3.out sbu0.out.1 sbu0.out.2;simp only at h1 ⊢;omega) (by have h1:=In.len_mul (H.out.ok ⟨pb,nb,Ab,bb,ob,cb,bs⟩ (by simp)) (H4.out.ok ⟨pc,nc',Ac',bc',oc',cc',cs'⟩ (by simp)) HB.out V1.out sbv0.out.1 sbv0.out.2;simp only at h1 ⊢;omega)).mono ?_;rintro e w5 ⟨rfl,⟨pa2,na2,Aa2,ba2,oa2,ca2,xs2⟩,hp,hv,hl⟩;simp only at hp;have hp:=hp.symm;subst hp;have H5:=κ hl.p2;have V5:=κ hv;clear hl hv)
  |(go_at_call 63;clear T6;refine(addI (x:=⟨pb,nb',Ab',bb',ob',cb',bs'⟩) (y:=⟨pd,nd',Ad',bd',od',cd',ds'⟩) H5.out (by simp) (by simp) (by have h1:=In.len_mul (H.out.ok ⟨pb,nb,Ab,bb,ob,cb,bs⟩ (by simp)) (H4.out.ok ⟨pb,nb',Ab',bb',ob',cb',bs'⟩ (by simp)) HB.out V4.out sbv1.out.1 sbv1.out.2;simp only at h1 ⊢;omega) (by have h1:=In.len_mul (H.out.ok ⟨pa,na,Aa,ba,oa,ca,as0⟩ (by simp)) (H4.out.ok ⟨pd,nd',Ad',bd',od',cd',ds'⟩ (by simp)) HA.out V2.out sbu1.out.1 sbu1.out.2;simp only at h1 ⊢;omega)).mono ?_;rintro e w6 ⟨rfl,⟨pb2,nb2,Ab2,bb2,ob2,cb2,ys2⟩,hp,hv,hl⟩;simp only at hp;have hp:=hp.symm;subst hp;have H6:=κ hl.p2;have V6:=κ hv;clear hl hv));first|go_end0|refine bodyPost_ret (results_none rfl _ _ _) rfl ?_
 exact⟨rfl,_,_,_,_,rfl,rfl,rfl,rfl,by rw[V5.out,V3.out,V1.out],by rw[V6.out,V4.out,V2.out],H6.out.perm (((List.Perm.swap _ _ W).cons _).cons _)⟩
end
structure DzPre(A:Option Addr)(l bz oz cz:Nat)(Ay:Option Addr)(ly by_ oy cy:Nat)(Au:Option Addr)(bu ou cu:Nat)(us:List Int)(Av:Option Addr)(bv ov cv:Nat)(vs:List Int)(w:World):Prop where
 thr:Glo w 0 40
 td:Glo w 1 40
 z:Rcv w A bz oz cz
 zl:l<=cz
 cz9:cz<=9223372036854775807
 y:Rcv w Ay by_ oy cy
 yl:ly<=cy
 cy9:cy<=9223372036854775807
 u:Nm w Au bu ou cu us
 ud:DG 18446744073709551616 us
 uz:NZ us
 u9:us.length<=50000
 cu9:cu<=9223372036854775807
 v:Nm w Av bv ov cv vs
 vd:DG 18446744073709551616 vs
 vz:NZ vs
 v1:1<=vs.length
 v9:vs.length<=900
 cv9:cv<=9223372036854775807
 dyz:Dj by_ oy cy bz oz cz
 dyu:Dj by_ oy cy bu ou us.length
 dyv:Dj by_ oy cy bv ov vs.length
 dzu:Dj bz oz cz bu ou us.length
structure DzR(A:Option Addr)(bz oz cz:Nat)(Ay:Option Addr)(by_ oy cy:Nat)(X Y:Int)(w:World)(A1:Option Addr)(b1 o1 c1:Nat)(qs:List Int)(A2:Option Addr)(b2 o2 c2:Nat)(rs:List Int)(w':World):Prop where
 qn:Nm w' A1 b1 o1 c1 qs
 qd:DG 18446744073709551616 qs
 qz:NZ qs
 qv:val 18446744073709551616 qs=X/Y
 qp:PlR w A bz oz cz A1 b1 o1 c1
 rn:Nm w' A2 b2 o2 c2 rs
 rd:DG 18446744073709551616 rs
 rz:NZ rs
 rv:val 18446744073709551616 rs=X%Y
 rp:PlR w Ay by_ oy cy A2 b2 o2 c2
 bn:(cz=0\/cy=0\/bz≠by_)->c1=0\/c2=0\/b1≠b2
 fc:Fc 51 (fun b i=>In1 bz oz cz b i\/In1 by_ oy cy b i) w w'
def DzP(A:Option Addr)(bz oz cz:Nat)(Ay:Option Addr)(by_ oy cy:Nat)(X Y:Int)(w:World)(e:Ending)(w':World):Prop:=
 ∃A1 b1 o1 c1 qs A2 b2 o2 c2 rs,e= .returned (.tuple #[.slice A1 qs.length c1,.slice A2 rs.length c2])/\DzR A bz oz cz Ay by_ oy cy X Y w A1 b1 o1 c1 qs A2 b2 o2 c2 rs w'
section
variable {A:Option Addr}{l bz oz cz:Nat}{Ay:Option Addr}{ly by_ oy cy:Nat}{Au:Option Addr}{bu ou cu:Nat}{us:List Int}{Av:Option Addr}{bv ov cv:Nat}{vs:List Int}{w:World}
theorem DzPre.vt(h:DzPre A l bz oz cz Ay ly by_ oy cy Au bu ou cu us Av bv ov cv vs w):vs.getD (vs.length-1) 0≠0:=by
 rcases h.vz with e|e
 ·have:=h.v1;rw[e]at this;exact absurd this (by simp)
 ·exact e
theorem dz_mk{w1 w2:World}{X Y:Int}{A1:Option Addr}{b1 o1 c1:Nat}{qs:List Int}{A2:Option Addr}{b2 o2 c2:Nat}{rs:List Int}(y:Rcv w Ay by_ oy cy)(dyz:Dj by_ oy cy bz oz cz)
 (P:PutR w A bz oz cz (X/Y) A1 b1 o1 c1 qs w1)(R:PutR w1 Ay by_ oy cy (X%Y) A2 b2 o2 c2 rs w2):DzR A bz oz cz Ay by_ oy cy X Y w A1 b1 o1 c1 qs A2 b2 o2 c2 rs w2:=by
 obtain⟨p1,p2,p3,p4,p5,p6⟩:=P;obtain⟨r1,r2,r3,r4,r5,r6⟩:=R;have s1:=p6.size;have s2:=r6.size;have hyl:0<cy->by_<w.heap.size:=fun hc=>y.lt hc
 have hq1:0<c1->b1<w1.heap.size:=fun hc=>p1.rcv.lt hc
 have dj1:Dj b1 o1 c1 by_ oy cy:=by
  rcases p5 with⟨_,rfl,rfl,rfl⟩|⟨h,_⟩
  ·exact dyz.symm
  ·by_cases e:cy=0
   ·unfold Dj;omega
   ·have:=hyl (by omega);exact .inl (by omega)
 refine⟨p1.fc r6 (fun i h1 h2=>(dj1.sub1 p1.le (Nat.le_refl _)).off i h1 h2),p2,p3,p4,p5,r1,r2,r3,r4,r5.imp id (fun a=>⟨by omega,a.2⟩),?_,(p6.mono (fun b i hh _=> .inl hh)).trans r6 (fun b i hh _=> .inr hh)⟩;intro hh;rcases r5 with⟨_,rfl,rfl,rfl⟩|⟨h,_⟩
 ·rcases p5 with⟨_,rfl,rfl,rfl⟩|⟨h,_⟩
  ·exact hh
  ·by_cases e:c2=0
   ·exact .inr (.inl e)
   ·have:=hyl (by omega);exact .inr (.inr (by omega))
 ·by_cases e:c1=0
  ·exact .inl e
  ·have:=hq1 (by omega);exact .inr (.inr (by omega))
theorem dz_one(h:DzPre A l bz oz cz Ay ly by_ oy cy Au bu ou cu us Av bv ov cv vs w)(h1:vs.length=1):
 Calls Tryz.prog 32 #[.slice A l cz,.pointer none,.slice Ay ly cy,.slice Au us.length cu,.slice Av vs.length cv] w (DzP A bz oz cz Ay by_ oy cy (val 18446744073709551616 us) (val 18446744073709551616 vs) w):=by
 obtain⟨t,rfl⟩:=List.length_eq_one_iff.1 h1;have ht:=h.vd.getD (by omega) 0;have htn:t≠0:=by have:=h.vt;simpa using this
 rw[show([t]:List Int).getD 0 0=t from rfl]at ht;have hv:val 18446744073709551616 [t]=t:=by simp[val_cons,val_nil]
 obtain rfl:=h.v.addr (by simp);have ct:=(h.v.2.2 (by simp)) 0 (by simp);rw[Nat.add_zero,show([t]:List Int).getD 0 0=t from rfl]at ct;have CD:=κ (divWR_any A l bz oz cz Au bu ou cu us t w h.z h.zl h.u h.ud h.uz (by have:=h.u9;omega) h.dzu.symm (by omega) ht.2);have hr:=Int.emod_nonneg (val 18446744073709551616 us) htn;have hr2:=Int.emod_lt_of_pos (val 18446744073709551616 us) (show 0<t by omega);have CW:=κ (fun W (hy:Rcv W Ay by_ oy cy)=>setWordR_any Ay ly by_ oy cy (val 18446744073709551616 us%t) W hy h.yl hr (by omega));have H:=κ h;rw[hv];obtain⟨R,hR⟩: ∃R,R=val 18446744073709551616 us%t:=⟨_,rfl⟩;have HR:=κ hR;unfold DivWPost at CD;rw[<-hR]at CW CD;have hvl:=h.v.le;have cv9:=h.cv9;have cu9:=h.cu9;have cz9:=h.cz9;have cy9:=h.cy9;have hul:=h.u.le;have hzl:=h.zl;have hyl:=h.yl;have u9:=h.u9;simp only[List.length_cons,List.length_nil,Nat.zero_add]at hvl ⊢
 clear h hr hr2 hR ht htn hv h1;go_enter_defers Tryz.func32,Tryz.ntmps32;refine wp_mono ?_ bodyPostN_D
 go_wp2_with (first
  |(go_at_call 45;refine(CD.out).mono ?_;rintro e w1 ⟨A1,b1,o1,c1,qs,rfl,hp⟩;have HP:=κ hp;clear hp)
  |(go_at_call 46;refine(CW.out _ (H.out.y.fc HP.out.2.2.2.2.2)).mono ?_;rintro e w2 ⟨A2,b2,o2,c2,rs,rfl,hr⟩;have HRR:=κ hr;clear hr));show Leaves _ _ _ _ _ _ _;refine⟨_,results_tmp2 rfl _ _ _,?_⟩;have hrr:=HRR.out;rw[HR.out]at hrr;exact⟨A1,b1,o1,c1,qs,A2,b2,o2,c2,rs,rfl,dz_mk H.out.y H.out.dyz HP.out hrr⟩
theorem dz_lt(h:DzPre A l bz oz cz Ay ly by_ oy cy Au bu ou cu us Av bv ov cv vs w)(h1:2<=vs.length)(hlt:val 18446744073709551616 us<val 18446744073709551616 vs):
 Calls Tryz.prog 32 #[.slice A l cz,.pointer none,.slice Ay ly cy,.slice Au us.length cu,.slice Av vs.length cv] w (DzP A bz oz cz Ay by_ oy cy (val 18446744073709551616 us) (val 18446744073709551616 vs) w):=by
 have CC:=bcmp_any (.slice Au us.length cu) (.slice Av vs.length cv) _ _ w ⟨us,h.u.sl,h.ud,h.uz,rfl⟩ ⟨vs,h.v.sl,h.vd,h.vz,rfl⟩;rw[show cmpI (val 18446744073709551616 us) (val 18446744073709551616 vs)= -1 by unfold cmpI;rw[if_pos hlt]]at CC;have HC:=κ CC;have CS:=κ (fun W (f:Fr [] w W)=>setR_all Ay ly by_ oy cy Au bu ou cu us W (h.u.fr0 f) h.ud h.uz (h.y.fc (Fc.fr0 f 51 (fun _ _=>False))) h.yl (by have:=h.u9;omega));have H:=κ h;have HLT:=κ hlt;have hvl:=h.v.le;have cv9:=h.cv9;have cu9:=h.cu9;have cz9:=h.cz9;have cy9:=h.cy9;have hul:=h.u.le;have hzl:=h.zl;have hyl:=h.yl;have u9:=h.u9;have v9:=h.v9;have hvb:((vs.length:Int)==0)=false:=by rw[beq_eq_false_iff_ne];omega
 have hvb1:((vs.length:Int)==1)=false:=by rw[beq_eq_false_iff_ne];omega
 clear h hlt CC;go_enter_defers Tryz.func32,Tryz.ntmps32;refine wp_mono ?_ bodyPostN_D
 go_wp2_with (first
  |(go_at_call 47;refine(HC.out).mono ?_;rintro e w1 ⟨rfl,f1⟩)
  |(go_at_call 41;refine(CS.out _ f1).mono ?_;rintro e w2 ⟨A2,b2,o2,c2,rs,rfl,hr⟩;have HRR:=κ hr;clear hr));show Leaves _ _ _ _ _ _ _;refine⟨_,results_tmp2 rfl _ _ _,?_⟩;have hX0:=val_nonneg (B:=18446744073709551616) (by omega) H.out.ud;have hrr:=HRR.out;rw[<-Int.emod_eq_of_lt hX0 HLT.out]at hrr;exact⟨A,bz,oz,cz,[],A2,b2,o2,c2,rs,rfl,dz_mk H.out.y H.out.dyz ⟨Nm.nil (H.out.z.fc (Fc.fr0 f1 51 (fun _ _=>False))),DG.nil _,NZ.nil,(Int.ediv_eq_zero_of_lt hX0 HLT.out).symm,.inl ⟨rfl,rfl,rfl,rfl⟩,Fc.fr0 f1 _ _⟩ hrr⟩
theorem rcv_s{A:Option Addr}{b o c s:Nat}(h:Rcv w A b o c)(hs:w.heap.size<=s):Off (StS s none) b o c:=fun i a1 a2 hh=>by
 have:=h.lt (by omega);simp only[StS]at hh;omega
theorem dz_free{s:Nat}{q':Option StkSt}{X Y:Int}{w1 w2 w3:World}{A1:Option Addr}{b1 o1 c1:Nat}{qs:List Int}{A2:Option Addr}{b2 o2 c2:Nat}{rs:List Int}(f:Fr [] w w1)(hs:w.heap.size<=s)(D:DvR s none A bz oz cz Ay by_ oy cy X Y w1 A1 b1 o1 c1 qs A2 b2 o2 c2 rs q' w2)(hf:Fc 51 (FreeS q') w2 w3):DzR A bz oz cz Ay by_ oy cy X Y w A1 b1 o1 c1 qs A2 b2 o2 c2 rs w3:=by
 have hsz:=f.size
 have off: ∀{b o c m:Nat},Off (StS s q') b o c->m<=c->Off (FreeS q') b o m:=fun h hm i a1 a2 hh=>by
  obtain⟨p,rfl,e⟩:=hh;exact h i a1 (by omega) (.inr (.inl e))
 refine⟨D.qn.fc hf (off D.qo D.qn.le),D.qd,D.qz,D.qv,D.qp.imp id (fun a=>⟨by omega,a.2⟩),D.rn.fc hf (off D.ro D.rn.le),D.rd,D.rz,D.rv,D.rp.imp id (fun a=>⟨by omega,a.2⟩),D.bn,((Fc.fr0 f _ _).trans D.fc (fun b i hh hlt=> ?_)).trans hf (fun b i hh hlt=> ?_)⟩
 ·rcases hh with hh|hh
  ·simp only[StS]at hh;omega
  ·exact hh
 ·obtain⟨p,rfl,e⟩:=hh
  have:=D.le;simp only[StkLe]at this;omega
theorem dz_ge(h:DzPre A l bz oz cz Ay ly by_ oy cy Au bu ou cu us Av bv ov cv vs w)(h1:2<=vs.length)(hge:val 18446744073709551616 vs<=val 18446744073709551616 us):
 Calls Tryz.prog 32 #[.slice A l cz,.pointer none,.slice Ay ly cy,.slice Au us.length cu,.slice Av vs.length cv] w (DzP A bz oz cz Ay by_ oy cy (val 18446744073709551616 us) (val 18446744073709551616 vs) w):=by
 have CC:=bcmp_any (.slice Au us.length cu) (.slice Av vs.length cv) _ _ w ⟨us,h.u.sl,h.ud,h.uz,rfl⟩ ⟨vs,h.v.sl,h.vd,h.vz,rfl⟩;obtain⟨ec,hec⟩: ∃x,x=cmpI (val 18446744073709551616 us) (val 18446744073709551616 vs):=⟨_,rfl⟩;have he0: ¬ec<0:=by rw[hec];unfold cmpI;rw[if_neg (by omega)];split<;>omega
 rw[<-hec]at CC;have HC:=κ CC
 have hlen:vs.length<=us.length:=by
  rcases Nat.lt_or_ge us.length vs.length with hh|hh
  ·exfalso
   have e1:=val_pos (B:=18446744073709551616) (by omega) h.vd h.vz (by intro e;rw[e]at h1;simp at h1);have e2:=val_lt_of_len (B:=18446744073709551616) (by omega) h.ud (k:=vs.length-1) (by omega);omega
  ·exact hh
 obtain⟨m,hm⟩: ∃m,us.length=m+vs.length:=⟨us.length-vs.length,by omega⟩;have CL:=κ (fun s W (hst:StkAt W s none) (hs:w.heap.size<=s) (f:Fr [] w W)=>(dv_large (m:=m) (n:=vs.length) (s:=s) (q:=none) (A:=A) (l:=l) (bz:=bz) (oz:=oz) (cz:=cz) (Ay:=Ay) (ly:=ly) (by_:=by_) (oy:=oy) (cy:=cy) (Au:=Au) (bu:=bu) (ou:=ou) (cu:=cu) (us:=us) (Av:=Av) (bv:=bv) (ov:=ov) (cv:=cv) (vs:=vs) (w:=W) ⟨hst,by have:=h.v9;simp only[lenS];omega,h.thr.fr0 f,h.td.fr0 f,h.z.fc (Fc.fr0 f 51 (fun _ _=>False)),h.zl,h.cz9,h.y.fc (Fc.fr0 f 51 (fun _ _=>False)),h.yl,h.cy9,h.u.fr0 f,hm,h.ud,h.cu9,h.v.fr0 f,rfl,h.vd,h.vt,h.cv9,h1,h.v9,by have:=h.u9;omega,rcv_s h.z hs,rcv_s h.y hs,by rw[<-hm];exact Off.take (rcv_s h.u.rcv hs) h.u.le,Off.take (rcv_s h.v.rcv hs) h.v.le,h.dyz,by rw[<-hm];exact h.dyu,h.dyv⟩));rw[<-hm]at CL;have hvl:=h.v.le;have cv9:=h.cv9;have cu9:=h.cu9;have cz9:=h.cz9;have cy9:=h.cy9;have hul:=h.u.le;have hzl:=h.zl;have hyl:=h.yl;have u9:=h.u9;have v9:=h.v9;have hvb:((vs.length:Int)==0)=false:=by rw[beq_eq_false_iff_ne];omega
 have hvb1:((vs.length:Int)==1)=false:=by rw[beq_eq_false_iff_ne];omega
 have hd:decide (ec<0)=false:=decide_eq_false he0;clear h CC hec he0 hge hm;go_enter_defers Tryz.func32,Tryz.ntmps32;refine wp_mono ?_ bodyPostN_D
 go_upto_if 35 with(first
  |(go_at_call 47;refine(HC.out).mono ?_;rintro e w1 ⟨rfl,f1⟩));try simp only[hd]
 go_wp2_with (first
  |(go_at_call 31;refine(getStackQ_any _).mono ?_;rintro e w3 ⟨s,rfl,hst,f3,hs⟩;have HST:=κ hst;have HS:=κ hs;have F3:=κ (f1.t f3);clear hst hs f3)
  |(go_at_call 49;refine(CL.out s _ HST.out (Nat.le_trans f1.size HS.out) F3.out).mono ?_;rintro e w2 ⟨A1,b1,o1,c1,qs,A2,b2,o2,c2,rs,q',rfl,hr⟩;have HRR:=κ hr;clear hr));show Leaves _ _ _ _ _ _ _;refine leaves_cons (f:=48) (args:= #[.pointer (some ⟨s,0,none⟩)]) (by simp) (by simp[go_sem]) ?_;refine(free_deferred s q' .returning _ HRR.out.st).mono ?_;rintro e u' w10 ⟨rfl,rfl,hf10⟩;refine⟨_,results_tmp2 rfl _ _ _,?_⟩;exact⟨A1,b1,o1,c1,qs,A2,b2,o2,c2,rs,rfl,dz_free F3.out (Nat.le_trans f1.size HS.out) HRR.out hf10⟩
theorem dz_any(h:DzPre A l bz oz cz Ay ly by_ oy cy Au bu ou cu us Av bv ov cv vs w):
 Calls Tryz.prog 32 #[.slice A l cz,.pointer none,.slice Ay ly cy,.slice Au us.length cu,.slice Av vs.length cv] w (DzP A bz oz cz Ay by_ oy cy (val 18446744073709551616 us) (val 18446744073709551616 vs) w):=by
 by_cases h1:vs.length=1
 ·exact dz_one h h1
 ·have:=h.v1
  rcases Int.lt_or_le (val 18446744073709551616 us) (val 18446744073709551616 vs)with hh|hh
  ·exact dz_lt h (by omega) hh
  ·exact dz_ge h (by omega) hh
end
end Go.Proofs.YthecibbmbnpegaaGreatDoor
