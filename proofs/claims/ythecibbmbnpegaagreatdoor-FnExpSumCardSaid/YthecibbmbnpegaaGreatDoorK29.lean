/-
  Part 29 of the proof of the law FnExpSum: XMoU. Conditions: those of each statement.
-/
import Derived.Test.YthecibbmbnpegaaGreatDoorK28
import Derived.Laws.Bits64
import Derived.Deep.DeepCutAuto
import Derived.Deep.RegionWith
set_option linter.unusedSimpArgs false
set_option linter.unusedVariables false
set_option maxRecDepth 100000
set_option maxHeartbeats 200000
namespace Go.Proofs.YthecibbmbnpegaaGreatDoor
open Go.Big Go.RowKit
structure MwF(n:Nat)(k:Int)(ms os:List Int):Prop where
 n0:0<n
 n9:n<=100000
 k0:0<=k
 k1:k<18446744073709551616
 kk:(18446744073709551616:Int)∣ms.getD 0 0*k+1
 ml:ms.length=n
 md:DG 18446744073709551616 ms
 mo:val 18446744073709551616 ms%2=1
 ol:os.length=n
 od:DG 18446744073709551616 os
 ov:val 18446744073709551616 os=1
def MoN(S:List Nat)(n:Nat)(M:Int)(w:World)(v:Value)(V:Int):Prop:=
 ∃ps,SlB S w v ps/\ps.length=n/\DG 18446744073709551616 ps/\Cg M (val 18446744073709551616 ps) V
theorem MoN.fr{S S':List Nat}{n:Nat}{M V:Int}{w w1:World}{v:Value}(h:MoN S n M w v V)(f:Fr S' w w1)(hb: ∀b,b∈S'->b∈S\/w.heap.size<=b):MoN S n M w1 v V:=by
 obtain⟨ps,h1,h2⟩:=h;exact⟨ps,h1.fr f hb,h2⟩
structure MwP(s n:Nat)(q:Option StkSt)(w:World)(X:Int)(vx vy vm vo vr:Value)(ys ms os:List Int)(bz cz bzz czz pb i:Nat)(wx:World):Prop where
 st: ∃q5,StkAt wx s q5/\StkLe w.heap.size q q5/\lenS q5=lenS q/\NewS s q5 bz/\NewS s q5 bzz/\NewS s q5 pb
 fc:Fc 51 (StS s q) w wx
 x:MoN [bz,bzz,pb] n (val 18446744073709551616 ms) wx vx X
 y:SlB [bz,bzz,pb] wx vy ys
 m:SlB [bz,bzz,pb] wx vm ms
 o:SlB [bz,bzz,pb] wx vo os
 z: ∃L,RoR wx bz cz L
 zz: ∃L,RoR wx bzz czz L
 ne:bz≠bzz
 nb:w.heap.size<=bzz
 zb:bz<w.heap.size
 nc:n*2<=czz
 pn:w.heap.size<=pb
 pz:pb≠bzz
 r:MoN [pb] n (val 18446744073709551616 ms) wx vr (18446744073709551616^n*18446744073709551616^n)
 pw: ∃vs,Pb wx pb vs/\(∀j,j<i->j<16->MoN [bz,bzz,pb] n (val 18446744073709551616 ms) wx (vs.getD j nilV) (X^j*18446744073709551616^n))/\ ∀j,i<=j->j<16->vs.getD j nilV=nilV
section
variable {s n:Nat}{q:Option StkSt}{w:World}{X k:Int}{vx vy vm vo vr:Value}{ys ms os:List Int}{bz cz bzz czz pb i:Nat}{wx w':World}
theorem MwP.fr(P:MwP s n q w X vx vy vm vo vr ys ms os bz cz bzz czz pb i wx)(f:Fr [] wx w'):MwP s n q w X vx vy vm vo vr ys ms os bz cz bzz czz pb i w':=by
 have e: ∀S:List Nat,∀ b,b∈([]:List Nat)->b∈S\/wx.heap.size<=b:=fun S b hb=>by simp at hb
 obtain⟨q5,s1,s2,s3,s4,s5,s6⟩:=P.st;obtain⟨Lz,hz⟩:=P.z;obtain⟨Lzz,hzz⟩:=P.zz;obtain⟨vs,p1,p2,p3⟩:=P.pw;exact⟨⟨q5,s1.fr0 f,s2,s3,s4,s5,s6⟩,P.fc.t (Fc.fr0 f _ _),P.x.fr f (e _),P.y.fr f (e _),P.m.fr f (e _),P.o.fr f (e _),⟨Lz,hz.row.fr f (by simp),hz.cl,hz.cm⟩,⟨Lzz,hzz.row.fr f (by simp),hzz.cl,hzz.cm⟩,P.ne,P.nb,P.zb,P.nc,P.pn,P.pz,P.r.fr f (e _),⟨vs,p1.fr f (by simp),fun j hj hj'=>(p2 j hj hj').fr f (e _),p3⟩⟩
def MwN(S:List Nat)(n:Nat)(M V:Int)(w:World)(e:Ending)(w':World):Prop:=
 ∃A l c,e= .returned (.slice A l c)/\Fr [] w w'/\MoN S n M w' (.slice A l c) (V*18446744073709551616^n)
theorem mw_mont{S:List Nat}{us vs:List Int}{vu vv:Value}{w1:World}{V:Int}(F:MwF n k ms os)(hm:SlB S w1 vm ms)(hS: ∀b,b∈S->b<w1.heap.size)(hu:SlB [] w1 vu us)(hv:SlB [] w1 vv vs)(hul:us.length=n)(hvl:vs.length=n)(du:DG 18446744073709551616 us)(dv:DG 18446744073709551616 vs)
 (hP: ∀z:Int,val 18446744073709551616 ms∣z*18446744073709551616^n-val 18446744073709551616 us*val 18446744073709551616 vs->Cg (val 18446744073709551616 ms) z (V*18446744073709551616^n)):
 Calls Tryz.prog 94 #[.slice none 0 0,vu,vv,vm,.int .u64 k,.int .i64 (n:Int)] w1 (MwN S n (val 18446744073709551616 ms) V w1):=by
 have n0:=F.n0;refine(montR_any none 0 w1.heap.size 0 [] vu vv vm us vs ms n k w1 ⟨by unfold maxLen;omega,.inl (by omega)⟩ (Nat.le_refl _) (hu.x (.inr (Nat.le_refl _))) (hv.x (.inr (Nat.le_refl _))) (hm.x (.inr (Nat.le_refl _))) du dv F.md hul hvl F.ml F.n0 F.n9 F.k0 F.k1 F.kk).mono ?_;rintro e w' ⟨b,c,L,zs,rfl,h1,h2,h3,h4,h5,h6,h7,h8,_,hf,hp⟩;have hb:w1.heap.size<=b:=(hp.resolve_left (by omega)).2.2;have hf0:Fr [] w1 w':=⟨hf.os,hf.tape,hf.output,hf.size,fun x hx _=>hf.block x hx (by simp;omega)⟩;have hn:RoN w' b c n L zs:=⟨h1,by omega,h3,h4,h5,h6,h7⟩;exact⟨_,_,_,rfl,hf0,zs,hn.slB (fun hm=>by have:=hS b hm;omega),h6,h7,hP _ h8⟩
theorem MwP.S(P:MwP s n q w X vx vy vm vo vr ys ms os bz cz bzz czz pb i wx): ∀b,b∈[bz,bzz,pb]->b<wx.heap.size:=fun b hb=>by
 simp only[List.mem_cons,List.not_mem_nil,or_false]at hb;obtain⟨Lz,hz⟩:=P.z;obtain⟨Lzz,hzz⟩:=P.zz;obtain⟨vs,p1,_⟩:=P.pw;rcases hb with rfl|rfl|rfl
 ·exact hz.row.lt
 ·exact hzz.row.lt
 ·exact p1.lt
theorem slB_nil{S:List Nat}{w:World}{v:Value}{xs:List Int}(h:SlB S w v xs):SlB [] w v xs:=h.sub (fun b hb=>by simp at hb)
theorem mw_call0(F:MwF n k ms os)(P:MwP s n q w X vx vy vm vo vr ys ms os bz cz bzz czz pb i wx):
 Calls Tryz.prog 94 #[.slice none 0 0,vo,vr,vm,.int .u64 k,.int .i64 (n:Int)] wx (MwN [bz,bzz,pb] n (val 18446744073709551616 ms) (X^0) wx):=by
 obtain⟨rs,r1,r2,r3,r4⟩:=P.r;exact mw_mont F P.m P.S (slB_nil P.o) (slB_nil r1) F.ol r2 F.od r3 (fun z hz=>mont_in (inv_word F.mo n) r4 (by rw[F.ov]at hz;rw[Int.pow_zero];exact hz))
theorem mw_call1(F:MwF n k ms os)(P:MwP s n q w X vx vy vm vo vr ys ms os bz cz bzz czz pb i wx):
 Calls Tryz.prog 94 #[.slice none 0 0,vx,vr,vm,.int .u64 k,.int .i64 (n:Int)] wx (MwN [bz,bzz,pb] n (val 18446744073709551616 ms) (X^1) wx):=by
 obtain⟨rs,r1,r2,r3,r4⟩:=P.r;obtain⟨us,u1,u2,u3,u4⟩:=P.x;exact mw_mont F P.m P.S (slB_nil u1) (slB_nil r1) u2 r2 u3 r3 (fun z hz=>(mont_in (inv_word F.mo n) r4 hz).trans (by rw[Int.pow_succ,Int.pow_zero,Int.one_mul];exact u4.mul (Cg.refl _ _)))
theorem mw_calli(F:MwF n k ms os)(P:MwP s n q w X vx vy vm vo vr ys ms os bz cz bzz czz pb i wx){vs:List Value}(hp:Pb wx pb vs)(hi:2<=i)(h16:i<16):
 Calls Tryz.prog 94 #[.slice none 0 0,vs.getD (i-1) nilV,vs.getD 1 nilV,vm,.int .u64 k,.int .i64 (n:Int)] wx (MwN [bz,bzz,pb] n (val 18446744073709551616 ms) (X^i) wx):=by
 obtain⟨vs',p1,p2,p3⟩:=P.pw;obtain rfl:vs'=vs:=by have:=p1.2.symm.trans hp.2;simpa using this
 obtain⟨us,u1,u2,u3,u4⟩:=p2 (i-1) (by omega) (by omega);obtain⟨rs,r1,r2,r3,r4⟩:=p2 1 (by omega) (by omega)
 exact mw_mont F P.m P.S (slB_nil u1) (slB_nil r1) u2 r2 u3 r3 (fun z hz=>by
  have:=mont_pow (inv_word F.mo n) u4 r4 hz;rwa[show i-1+1=i by omega]at this)
theorem MwP.store{v:Value}(P:MwP s n q w X vx vy vm vo vr ys ms os bz cz bzz czz pb i wx)(hi:i<16)(hv:MoN [bz,bzz,pb] n (val 18446744073709551616 ms) wx v (X^i*18446744073709551616^n)):MwP s n q w X vx vy vm vo vr ys ms os bz cz bzz czz pb (i+1) (wx.setCell ⟨pb,i,none⟩ v):=by
 obtain⟨q5,s1,s2,s3,s4,s5,s6⟩:=P.st;obtain⟨Lz,hz⟩:=P.z;obtain⟨Lzz,hzz⟩:=P.zz;obtain⟨vs,p1,p2,p3⟩:=P.pw;have f:Fr [pb] wx (wx.setCell ⟨pb,i,none⟩ v):=Fr.setPb i v;have fc:Fc 51 (fun b _=>b=pb) wx (wx.setCell ⟨pb,i,none⟩ v):=Fc.setPb p1 i v (fun L hr=>p1.row_ne hr rfl);have e3: ∀b,b∈[pb]->b∈[bz,bzz,pb]\/wx.heap.size<=b:=fun b hb=> .inl (by simp at hb ⊢;omega)
 have e1: ∀b,b∈[pb]->b∈[pb]\/wx.heap.size<=b:=fun b hb=> .inl hb
 have hbz:bz≠pb:=by have:=P.zb;have:=P.pn;omega
 refine⟨⟨q5,s1.fc fc (fun i hh=>s6.1 hh.symm) (fun p hp i hh=>(s6.2 p hp).1 hh.symm),s2,s3,s4,s5,s6⟩,P.fc.trans fc (fun b i hh hlt=>by have:=P.pn;omega),P.x.fr f e3,P.y.fr f e3,P.m.fr f e3,P.o.fr f e3,⟨Lz,hz.row.fr f (by simpa using hbz),hz.cl,hz.cm⟩,⟨Lzz,hzz.row.fr f (by simpa using P.pz.symm),hzz.cl,hzz.cm⟩,P.ne,P.nb,P.zb,P.nc,P.pn,P.pz,P.r.fr f e1,⟨vs.set i v,p1.set i v,fun j hj hj'=> ?_,fun j hj hj'=> ?_⟩⟩
 ·rw[get_set (by rw[p1.1];exact hi)]
  by_cases e:j=i
  ·rw[if_pos e,e];exact hv.fr f e3
  ·rw[if_neg e];exact(p2 j (by omega) hj').fr f e3
 ·rw[get_set (by rw[p1.1];exact hi),if_neg (by omega)]
  exact p3 j (by omega) hj'
theorem mw_p0{w7 w8:World}{g:Nat}(D:MwD s n q w X vx vy vm ys ms bz cz bzz czz vr w7)(hn0:0<n)(hn9:n<=1000000)(hg:w7.heap.size<=g)(hr:Row .u64 51 w8 g (List.replicate n 0))(f:Fr [] w7 w8)(hw:w'=(w8.setCell ⟨g,0,none⟩ (.int .u64 1)).alloc (.cells #[nilV,nilV,nilV,nilV,nilV,nilV,nilV,nilV,nilV,nilV,nilV,nilV,nilV,nilV,nilV,nilV] 112)):
 ∃os,os.length=n/\DG 18446744073709551616 os/\val 18446744073709551616 os=1/\MwP s n q w X vx vy vm (.slice (some ⟨g,0,none⟩) n n) vr ys ms os bz cz bzz czz w8.heap.size 0 w':=by
 have hr1:=hr.set 0 1;have hsz1:(w8.setCell ⟨g,0,none⟩ (.int .u64 1)).heap.size=w8.heap.size:=by simp[World.setCell]
 have hf8:Fr [] w7 (w8.setCell ⟨g,0,none⟩ (.int .u64 1)):=by apply Fr.set f (.inr hg)
 have hf:Fr [] w7 w':=by rw[hw];exact hf8.alloc _
 have hrow:Row .u64 51 w' g ((List.replicate n 0).set 0 1):=by rw[hw];exact hr1.alloc _
 have hpb:Pb w' w8.heap.size (List.replicate 16 nilV):=by
  have:=Pb.new (w8.setCell ⟨g,0,none⟩ (.int .u64 1));rw[hsz1]at this;rw[hw];exact this
 obtain⟨m,rfl⟩: ∃m,n=m+1:=⟨n-1,by omega⟩;have ho:(List.replicate (m+1) (0:Int)).set 0 1=1::List.replicate m 0:=by rw[List.replicate_succ,List.set_cons_zero]
 rw[ho]at hrow;have hol:(1::List.replicate m (0:Int)).length=m+1:=by simp
 have hod:DG 18446744073709551616 (1::List.replicate m (0:Int)):=DG.cons (by omega) (by omega) (DG.rep (by omega) m);have s7:=f.size;obtain⟨q5,s1,s2,s3,s4,s5⟩:=D.st;obtain⟨Lz,hz⟩:=D.z;obtain⟨Lzz,hzz⟩:=D.zz;obtain⟨us,u1,u2⟩:=D.x;obtain⟨rs,r1,r2⟩:=D.r;have e: ∀S:List Nat,∀ b,b∈([]:List Nat)->b∈S\/w7.heap.size<=b:=fun S b hb=>by simp at hb
 have sub3: ∀{v:Value} {xs:List Int},SlB [bz,bzz] w7 v xs->SlB [bz,bzz,w8.heap.size] w' v xs:=fun h=>(h.sub (S':=[bz,bzz,w8.heap.size]) (fun b hb=>by
  simp only[List.mem_cons,List.not_mem_nil,or_false]at hb ⊢
  omega)).fr hf (e _)
 have hzl:=hz.row.lt;have hzzl:=hzz.row.lt;have hfs:=D.fc.size;refine⟨_,hol,hod,by rw[val_cons,val_rep];omega,⟨q5,s1.fr0 hf,s2,s3,s4,s5,NewS.of s1 s7⟩,D.fc.t (Fc.fr0 hf _ _),⟨us,sub3 u1,u2⟩,sub3 D.y,sub3 D.m,?_,⟨Lz,hz.row.fr hf (by simp),hz.cl,hz.cm⟩,⟨Lzz,hzz.row.fr hf (by simp),hzz.cl,hzz.cm⟩,D.ne,D.nb,D.zb,D.nc,by omega,by omega,⟨rs,?_,r2⟩,⟨_,hpb,fun j hj=>absurd hj (by omega),fun j _ hj=> ?_⟩⟩
 ·have hn:RoN w' g (m+1) (m+1) (1::List.replicate m 0) (1::List.replicate m 0):=⟨hrow,Nat.le_refl _,by rw[hol];exact Nat.le_refl _,by unfold maxLen;omega,by rw[List.take_of_length_le (by rw[hol];exact Nat.le_refl _)],hol,hod⟩
  have hgl:=hr.lt;exact hn.slB (by simp only[List.mem_cons,List.not_mem_nil,or_false];omega)
 ·exact(SlB.of r1 (S:=[w8.heap.size]) (fun b hb=>by simp at hb;omega)).fr hf (e _)
 ·rw[List.getD_eq_getElem?_getD,List.getElem?_replicate,if_pos hj];rfl
theorem mw_mos{w13:World}{Lz Lzz ps:List Int}{cz l:Nat}(F:MwF n k ms os)(P:MwP s n q w X vx vy vm vo vr ys ms os bz cz bzz czz pb 16 wx)(hz:RoR wx bz cz Lz)(hzz:RoR wx bzz czz Lzz)(hnz:n<=cz)(hl:l<=czz)(hpl:ps.length=n)(hpd:DG 18446744073709551616 ps)(hpc:Cg (val 18446744073709551616 ms) (val 18446744073709551616 ps) (X^0*18446744073709551616^n))
 (hr:Row .u64 51 w13 bz (Go.Big.spl Lz 0 ps))(f:Fr [bz] wx w13):MoS n k X vm vo vy ms os ys pb [bz,bzz] wx (.slice (some ⟨bz,0,none⟩) n cz) (.slice (some ⟨bzz,0,none⟩) l czz) 0 w13:=by
 obtain⟨vs,p1,p2,p3⟩:=P.pw;have hcl:=hz.cl;have hsl:(Go.Big.spl Lz 0 ps).length=Lz.length:=spl_len (by omega);have hbz:bz≠pb:=by have:=P.zb;have:=P.pn;omega
 have e1: ∀b,b∈[bz]->b∈[bz,bzz]\/wx.heap.size<=b:=fun b hb=> .inl (by simp at hb ⊢;omega)
 have sub: ∀{v:Value} {xs:List Int},SlB [bz,bzz,pb] wx v xs->SlB [bz,bzz] w13 v xs:=fun h=>(h.sub (S':=[bz,bzz]) (fun b hb=> .inl (by simp only[List.mem_cons,List.not_mem_nil,or_false]at hb ⊢;omega))).fr f e1
 refine⟨bz,cz,_,ps,bzz,l,czz,Lzz,rfl,⟨hr,hnz,by rw[hsl];exact hcl,hz.cm,?_,hpl,hpd⟩,hpc,rfl,hl,⟨hzz.row.fr f (by simpa using P.ne.symm),hzz.cl,hzz.cm⟩,P.ne,.inl (by simp),.inl (by simp),?_,f.mono (fun b hb=>by simp at hb ⊢;omega)⟩
 ·unfold Go.Big.spl
  rw[List.take_zero,List.nil_append,List.take_append_of_le_length (by omega),List.take_of_length_le (by omega)]
 ·refine⟨F.n0,F.n9,F.k0,F.k1,F.kk,F.ml,F.md,F.mo,sub P.m,F.ol,F.od,F.ov,sub P.o,sub P.y,by simp only[List.mem_cons,List.not_mem_nil,or_false];have:=P.pz;omega,fun i hi=> ?_⟩
  obtain⟨qs,q1,q2,q3,q4⟩:=p2 i hi hi;exact⟨_,qs,(p1.fr f (by simpa using hbz.symm)).cell hi,sub q1,q2,q3,q4⟩
theorem SlB.cell{S:List Nat}{w:World}{b o l c i:Nat}{us:List Int}(h:SlB S w (.slice (some ⟨b,o,none⟩) l c) us)(hi:i<us.length):w.cell? ⟨b,o+i,none⟩=some (.int .u64 (us.getD i 0)):=by
 obtain⟨A,cap,h1,h2,h3,h4⟩:=h;injection h1 with h1 _ _;obtain⟨b',o',e,_,_,h5⟩:=h4 (by omega);rw[e]at h1;injection h1 with h1;injection h1 with h1 h6 _;subst h1 h6;exact h5 i hi
theorem MoS.y{S0:List Nat}{w0 w1:World}{vz vr:Value}{e:Nat}(h:MoS n k X vm vo vy ms os ys pb S0 w0 vz vr e w1):SlB [] w1 vy ys:=by
 obtain⟨_,_,_,_,_,_,_,_,_,_,_,_,_,_,_,_,_,B,_⟩:=h;exact slB_nil B.y
theorem MoS.pw{S0:List Nat}{w0 w1:World}{vz vr:Value}{e d:Nat}(h:MoS n k X vm vo vy ms os ys pb S0 w0 vz vr e w1)(hd:d<16): ∃v,w1.cell? ⟨pb,d,none⟩=some v:=by
 obtain⟨_,_,_,_,_,_,_,_,_,_,_,_,_,_,_,_,_,B,_⟩:=h;obtain⟨v,_,hv,_⟩:=B.pw d hd;exact⟨v,hv⟩
theorem MoS.exp{S0:List Nat}{w0 w1:World}{vz vr:Value}{e d:Nat}(h:MoS n k X vm vo vy ms os ys pb S0 w0 vz vr e w1)(he:e=d):MoS n k X vm vo vy ms os ys pb S0 w0 vz vr d w1:=by subst he;exact h
theorem StkAt.frS{S:List Nat}{w w1:World}{s:Nat}{q:Option StkSt}(h:StkAt w s q)(f:Fr S w w1)(hS: ∀b,b∈S->NewS s q b):StkAt w1 s q:=by
 cases q with
 |none=>
  have hlt:s<w.heap.size:=heap_lt h;exact(f.block s hlt (fun hm=>(hS s hm).1 rfl)).trans h
 |some q=>
  obtain⟨h1,h2,⟨L,hL,h4⟩,h5⟩:=h;exact⟨(f.block s (heap_lt h1) (fun hm=>(hS s hm).1 rfl)).trans h1,(f.block q.si (heap_lt h2) (fun hm=>((hS _ hm).2 q rfl).1 rfl)).trans h2,⟨L,hL.fr f (fun hm=>((hS _ hm).2 q rfl).2 rfl),h4⟩,h5⟩
theorem fc_of_new{T:TypeId}{C:Nat->Nat->Prop}{S:List Nat}{w w1 w2:World}(h:Fc T C w w1)(f:Fr S w1 w2)(hS: ∀b,b∈S->w.heap.size<=b):Fc T C w w2:=by
 have hsz:=h.size;have hn: ∀b,b<w.heap.size->b∉S:=fun b hb hm=>by have:=hS b hm;omega
 refine⟨f.os.trans h.os,f.tape.trans h.tape,f.output.trans h.output,Nat.le_trans h.size f.size,fun b hb hc=>(f.block b (by omega) (hn b hb)).trans (h.block b hb hc),fun b i hb hc=>(f.cell (p:=⟨b,i,none⟩) (by simp only;omega) (hn b hb)).trans (h.cell b i hb hc),fun b L hr=> ?_⟩;obtain⟨L',h1,h2⟩:=h.row b L hr;exact⟨L',h1.fr f (hn b hr.lt),h2⟩
theorem mw_ret{wB:World}{A:Option Addr}{b o c:Nat}{zs:List Int}{V:Int}(P:MwP s n q w X vx vy vm vo vr ys ms os bz cz bzz czz pb i wx)(hB:Fr [] wB w)(hz:wB.heap.size<=bz)(f:Fr [bz,bzz] wx w')(hn:Nm w' A b o c zs)(hd:DG 18446744073709551616 zs)(hnz:NZ zs)(hv:val 18446744073709551616 zs=V)(hb:b∈[bz,bzz]\/wx.heap.size<=b):RetS s q V wB (.returned (.slice A zs.length c)) w':=by
 obtain⟨q5,s1,s2,s3,s4,s5,s6⟩:=P.st;have hw:=hB.size;have hwx:=P.fc.size;have hnb:=P.nb;have hm:=hn.max;unfold maxLen at hm
 have hS: ∀x,x∈[bz,bzz]->NewS s q5 x:=fun x hx=>by
  simp only[List.mem_cons,List.not_mem_nil,or_false]at hx;rcases hx with rfl|rfl
  ·exact s4
  ·exact s5
 have hbS:NewS s q5 b:=hb.elim (hS b) (fun h=>NewS.of s1 h);refine⟨⟨A,b,o,c,zs⟩,q5,rfl,⟨hn,hd,hnz⟩,hv,hm,?_,hbS,s1.frS f hS,s2.le hw,s3,fc_of_new ((Fc.fr0 hB _ _).t P.fc) f (fun x hx=> ?_)⟩
 ·simp only
  rcases hb with hb|hb
  ·simp only[List.mem_cons,List.not_mem_nil,or_false]at hb
   rcases hb with rfl|rfl<;>omega
  ·omega
 ·simp only[List.mem_cons,List.not_mem_nil,or_false]at hx
  rcases hx with rfl|rfl<;>omega
theorem RoN.nm{w:World}{b c n:Nat}{L zs:List Int}(h:RoN w b c n L zs):Nm w (some ⟨b,0,none⟩) b 0 c zs:=by
 refine Nm.of_wr (Wr.of_row h.row (by have:=h.ln;have:=h.nc;have:=h.cl;omega) (fun j hj=> ?_)) (Rcv.of_row h.row (by have:=h.cl;omega) h.cm) (by rw[h.ln];exact h.nc);rw[h.ln]at hj;rw[Nat.zero_add,<- h.tk];simp only[List.getD_eq_getElem?_getD,List.getElem?_take,if_pos hj]
theorem wr_frS{T:TypeId}{S:List Nat}{w w1:World}{b o:Nat}{us:List Int}(h:Wr T w b o us)(f:Fr S w w1)(hb:b∉S):Wr T w1 b o us:=by
 obtain⟨h1,L,h2,h3⟩:=h;exact⟨h1.fr f hb,L,h2.fr f hb,h3⟩
theorem mw_m{A:Option Addr}{bm om cm:Nat}(P:MwP s n q w X vx vy vm vo vr ys ms os bz cz bzz czz pb i wx)(hm:PnOk s q w ⟨A,bm,om,cm,ms⟩)(hl:0<ms.length)(hb:bm≠bz)(f:Fr [bz,bzz] wx w'):Wr 51 w' bm om ms:=by
 have h1:=hm.nm.wr hl;have h2:=h1.fc P.fc (fun i a1 a2=>hm.off i a1 (Nat.lt_of_lt_of_le a2 (Nat.add_le_add_left hm.nm.le _)));have h3:bm<w.heap.size:=h1.lt;have h4:=P.nb;exact wr_frS h2 f (by simp only[List.mem_cons,List.not_mem_nil,or_false];omega)
theorem fr_in1{T:TypeId}{b o m:Nat}{w w1:World}(h:Fc T (In1 b o m) w w1):Fr [b] w w1:=⟨h.os,h.tape,h.output,h.size,fun x hx hn=>h.block x hx (fun i hh=>hn (by simpa using hh.1))⟩
theorem mw_sub0{us ms:List Int}{w w1:World}{A:Option Addr}{b o c m:Nat}{e:Ending}(he:val 18446744073709551616 us=val 18446744073709551616 ms)(h:ResR w A b o c (In1 b o m) (val 18446744073709551616 us-val 18446744073709551616 ms) e w1):
 ∃A' b' o' c',Nm w1 A' b' o' c' []/\Fr [b] w w1/\(b'=b\/w.heap.size<=b')/\e= .returned (.slice A' 0 c'):=by
 obtain⟨A',b',o',c',zs,rfl,h1,h2,h3,h4,h5,h6⟩:=h
 obtain rfl:zs=[]:=by
  rcases h3 with h3|h3
  ·exact h3
  ·have h7:=nz_pos (B:=18446744073709551616) (by omega) h2 (.inr h3) (by rintro rfl;simp at h3)
   omega
 exact⟨A',b',o',c',h1,fr_in1 h6,h5.imp (fun a=>a.2.1) (fun a=>a.1),rfl⟩
def WoR(n:Nat)(k X:Int)(vm vo vy:Value)(ms os ys:List Int)(pb:Nat)(S0:List Nat)(w0:World)(Y:Nat)(g:Nat)(v0 v17 v21:Value)(wx:World):Prop:=
 ∃(i:Nat) (x:Int),v21= .int .i64 x/\x=(i:Int)-1/\i<=ys.length/\g=i/\MoS n k X vm vo vy ms os ys pb S0 w0 v0 v17 (Y/2^(64*i)) wx
def WiR(n:Nat)(k X:Int)(vm vo vy:Value)(ms os ys:List Int)(pb:Nat)(S0:List Nat)(w0:World)(Y i:Nat)(g:Nat)(v0 v17 v22 v23:Value)(wx:World):Prop:=
 ∃j J yi:Nat,v23= .int .i64 (J:Int)/\J=4*j/\v22= .int .u64 (yi:Int)/\yi=Y/2^(64*i)%2^64*2^(4*j)%2^64/\j<=16/\g=16-j/\MoS n k X vm vo vy ms os ys pb S0 w0 v0 v17 (Y/2^(64*i+64-4*j)) wx
end
end Go.Proofs.YthecibbmbnpegaaGreatDoor
