/-
  Part 28 of the proof of the law FnExpSum: XMoV, XPb. Conditions: those of each statement.
-/
import Derived.Test.YthecibbmbnpegaaGreatDoorK26
import Derived.Test.YthecibbmbnpegaaGreatDoorK27
import Derived.Laws.Bits64
import Derived.Deep.DeepCutAuto
import Derived.Deep.RegionWith
set_option linter.unusedSimpArgs false
set_option linter.unusedVariables false
set_option maxRecDepth 100000
set_option maxHeartbeats 200000
namespace Go.Big
theorem spl_val{n:Nat}{xs:List Int}(h:xs.length<=n):val 18446744073709551616 (spl (List.replicate n 0) 0 xs)=val 18446744073709551616 xs/\(spl (List.replicate n 0) 0 xs).length=n:=by
 refine⟨?_,by rw[spl_len (by simpa using h)];simp⟩;unfold spl;rw[List.take_zero,List.nil_append,val_append,val_zeros 18446744073709551616 (xs:=List.drop (0+xs.length) (List.replicate n 0)) (fun x hx=>by have:=List.mem_of_mem_drop hx;exact List.eq_of_mem_replicate this),Int.mul_zero,Int.add_zero]
theorem spl_take_val{n:Nat}{L xs:List Int}(hz:L.take n=List.replicate n 0)(hn:n<=L.length)(h:xs.length<=n):val 18446744073709551616 ((spl L 0 xs).take n)=val 18446744073709551616 xs:=by
 have e:(spl L 0 xs).take n=spl (List.replicate n 0) 0 xs:=by
  rw[<-hz];unfold spl;rw[List.take_zero,List.take_zero,List.nil_append,List.nil_append,List.take_append,List.take_of_length_le h,List.drop_take,Nat.zero_add]
 rw[e];exact(spl_val h).1
end Go.Big
namespace Go.Proofs.YthecibbmbnpegaaGreatDoor
open Go.Big Go.RowKit
def MwA(s:Nat)(q:Option StkSt)(w:World)(zp yp mp:Pn)(X:Int)(lo hi:Nat)(v2:Value)(wx:World):Prop:=
 ∃(A:Option Addr) (b o c:Nat) (xs:List Int) (q1:Option StkSt),v2= .slice A xs.length c/\Lv s w q wx q1 [] [⟨A,b,o,c,xs⟩,zp,yp,mp]/\lenS q1=lenS q/\lo<=xs.length/\xs.length<=hi/\Cg mp.n (val 18446744073709551616 xs) X/\(xs.length=0\/b≠zp.b)
section
variable {s n:Nat}{q:Option StkSt}{w:World}{zp xp yp mp:Pn}
theorem mw_keep{hi:Nat}(h:Lv s w q w q [] [xp,zp,yp,mp])(hl:xp.xs.length<=hi)(hb:xp.b≠zp.b):MwA s q w zp yp mp xp.n 0 hi (.slice xp.A xp.xs.length xp.c) w:=
 ⟨xp.A,xp.b,xp.o,xp.c,xp.xs,q,rfl,h,rfl,Nat.zero_le _,hl,Cg.refl _ _,.inr hb⟩
theorem mw_div{w1:World}{e:Ending}(h:Lv s w q w q [] [xp,zp,yp,mp])(hm0:0<mp.n)(hzb:zp.b<w.heap.size)(hp:Put2L s w q w q [] [xp,zp,yp,mp] (nilP w.heap.size) (nilP w.heap.size) (xp.n/mp.n) (xp.n%mp.n) e w1):
 ∃(zq:Value) (A:Option Addr) (c:Nat) (xs:List Int),e= .returned (.tuple #[zq,.slice A xs.length c])/\MwA s q w zp yp mp xp.n 0 mp.xs.length (.slice A xs.length c) w1:=by
 obtain⟨zq,zr,q1,rfl,lv,nzq,nzr,vq,vr,ll,pq,pr,_⟩:=hp;have hx0:=val_nonneg (B:=18446744073709551616) (by omega) (h.ok xp (by simp)).dg;have hlt:=Int.emod_lt_of_pos xp.n hm0;have hlen:zr.xs.length<=mp.xs.length:=len_sm (lv.ok zr (by simp)).dg (h.ok mp (by simp)).dg nzr (by unfold Pn.n at *;omega);refine⟨zq.v,zr.A,zr.c,zr.xs,rfl,zr.A,zr.b,zr.o,zr.c,zr.xs,q1,rfl,?_,ll,Nat.zero_le _,hlen,?_,?_⟩
 ·have h1:=(lv.perm (List.Perm.swap zr zq [])).moveR
  exact h1.sub (W':=[]) (R':=[zr,zp,yp,mp]) (by simp) (by simp)
 ·have:val 18446744073709551616 zr.xs=xp.n%mp.n:=vr
  rw[this];exact Cg.emod _
 ·have hrl:=(lv.ok zr (by simp)).nm.le
  rcases pr with⟨_,_,hc⟩|hb
  ·have:(nilP w.heap.size).c=0:=rfl
   exact .inl (by omega)
  ·exact .inr (by omega)
theorem mw_div0(h:Lv s w q w q [] [xp,zp,yp,mp])(hn:mp.xs.length=n)(hn0:0<n)(hn9:n<=100)(hx9:xp.xs.length<=100)(nx:NZ xp.xs)(nm:NZ mp.xs)(hm0:0<mp.n)(hzb:zp.b<w.heap.size):
 Calls Tryz.prog 32 #[.slice none 0 0,.pointer (some ⟨s,0,none⟩),.slice none 0 0,.slice xp.A xp.xs.length xp.c,.slice mp.A n mp.c] w fun e w1=> ∃(zq:Value) (A:Option Addr) (c:Nat) (xs:List Int),e= .returned (.tuple #[zq,.slice A xs.length c])/\MwA s q w zp yp mp xp.n 0 n (.slice A xs.length c) w1:=by
 have C:=divL (u:=xp) (v:=mp) (l:=0) (ly:=0) h.nil.nil (by simp) (by simp) nx nm (by omega) (by omega) (by omega) (Nat.zero_le _) (Nat.zero_le _);unfold Pn.v at C;rw[hn]at C;refine C.mono fun e w1 hp=> ?_
 rw[<-hn];exact mw_div h hm0 hzb hp
theorem mw_pad{w1 w3:World}{q1:Option StkSt}{A:Option Addr}{b o c g:Nat}{X:Int}{xs:List Int}(h:Lv s w q w1 q1 [] [⟨A,b,o,c,xs⟩,zp,yp,mp])(hll:lenS q1=lenS q)(hln:xs.length<=n)(hn9:n<=1000000)(hc:Cg mp.n (val 18446744073709551616 xs) X)(hg:w1.heap.size<=g)(hzb:zp.b<w1.heap.size)
 (hr:Row .u64 51 w3 g (Go.Big.spl (List.replicate n 0) 0 xs))(hf:Fr [] w1 w3):MwA s q w zp yp mp X n n (.slice (some ⟨g,0,none⟩) n n) w3:=by
 obtain⟨hv,hl⟩:=spl_val hln;have hd:=(h.ok ⟨A,b,o,c,xs⟩ (by simp)).dg;refine⟨some ⟨g,0,none⟩,g,0,n,_,q1,by rw[hl],?_,hll,Nat.le_of_eq hl.symm,Nat.le_of_eq hl,by rw[hv];exact hc,.inr (by omega)⟩;have h1:=h.add (z:=⟨some ⟨g,0,none⟩,g,0,n,Go.Big.spl (List.replicate n 0) 0 xs⟩) hf (pn_new h.st hf hg hr (List.take_of_length_le (Nat.le_refl _)) (by rw[hl];exact Nat.le_refl _) (by rw[hl];exact Nat.le_refl _) (by unfold maxLen;omega) (spl_dg (DG.rep (by omega) n) hd)) hg;exact h1.moveR.sub (W':=[]) (R':=[_,zp,yp,mp]) (by simp) (by simp)
def NwRel(m0:Int)(w1:World)(g:Nat)(v13 v14 v15:Value)(wr:World):Prop:=
 ∃(k t:Int) (i:Nat),v13= .int .u64 k/\v14= .int .u64 t/\v15= .int .i64 (i:Int)/\w1=wr/\0<=k/\k<18446744073709551616/\0<=t/\t<18446744073709551616/\1<=i/\i<128/\g=128-i/\(2:Int)^(min i 64)∣t/\(18446744073709551616:Int)∣m0*k-1+t*t
theorem mw_one{w2:World}{q2:Option StkSt}{R:List Pn}(h:Lv s w q w2 q2 [] R):
 Calls Tryz.prog 46 #[.slice none 0 0,.int .u64 1] w2 fun e w3=> ∃b3 o3 c3 q3,e= .returned (.slice (some ⟨b3,o3,none⟩) 1 c3)/\1<=c3/\c3<=9223372036854775807/\Lv s w q w3 q3 [⟨some ⟨b3,o3,none⟩,b3,o3,c3,[1]⟩] R/\lenS q3=lenS q2:=by
 refine(setWordL (h.nil) (v:=1) (by omega) (by omega) (l:=0) (Nat.zero_le _)).mono ?_;rintro e w3 ⟨⟨A3,b3,o3,c3,os⟩,q3,rfl,lv3,nz3,v3,ll3,le3,pl3⟩;have ho:=lv3.ok ⟨A3,b3,o3,c3,os⟩ (by simp);obtain rfl:os=[1]:=eq_of_val ho.dg (DG.cons (by omega) (by omega) (DG.nil _)) nz3 (.inr (by simp)) (by omega) (by rw[show val 18446744073709551616 os=1 from v3];simp[val_cons,val_nil]);obtain rfl:A3=some ⟨b3,o3,none⟩:=ho.nm.addr (by simp);have:=ho.nm.le;exact⟨b3,o3,c3,q3,rfl,by simpa using this,ho.c9,lv3,ll3⟩
theorem mw_lsh{w3:World}{q3:Option StkSt}{R:List Pn}{b3 o3 c3:Nat}(h:Lv s w q w3 q3 [⟨some ⟨b3,o3,none⟩,b3,o3,c3,[1]⟩] R)(hn0:0<n)(hn9:n<=1000):
 Calls Tryz.prog 93 #[.slice none 0 0,.slice (some ⟨b3,o3,none⟩) 1 c3,.int .u64 ((n*128:Nat):Int)] w3 fun e w4=> ∃z c,e= .returned (.slice (some ⟨z,0,none⟩) (n*2+1:Nat) c)/\n*2+1<=c/\c<=2000000/\w3.heap.size<=z/\Fr [] w3 w4/\Lv s w q w4 q3 [⟨some ⟨z,0,none⟩,z,0,c,List.replicate (n*2) 0++[1]⟩,⟨some ⟨b3,o3,none⟩,b3,o3,c3,[1]⟩] R:=by
 have ho:=h.ok ⟨some ⟨b3,o3,none⟩,b3,o3,c3,[1]⟩ (by simp);have hle:=ho.nm.le;have hm:=ho.nm.max;refine(lshN_any none 0 0 b3 o3 c3 [1] (n*128) w3 (Nat.le_refl _) (ho.nm.2.2 (by simp)) (ho.nm.lt (by simp)) ho.dg (by simp) (by simp) (by simpa using hle) hm (by omega) (by omega) (by simp only[List.length_cons,List.length_nil];omega)).mono ?_;rintro e w4 ⟨z,c,zs,rfl,g1,g2,g3,g4,g5,g6,g7⟩
 have hv:val 18446744073709551616 zs=18446744073709551616^(n*2):=by
  rw[g4,show n*128=n*2*64 by omega,pow_words];simp[val_cons,val_nil]
 obtain rfl:=top_words g2 g3 hv;have hl:(List.replicate (n*2) (0:Int)++[1]).length=n*2+1:=by simp
 have hc:=g1.le;rw[hl]at hc;refine⟨z,c,by rw[hl],hc,g6,g5,g7,h.add g7 ⟨g1,g2,by simp only;omega,(NewS.of h.st g5).off⟩ g5⟩
theorem mw_rest{w4:World}{q3:Option StkSt}{xp:Pn}{z c b3 o3 c3:Nat}(h:Lv s w q w4 q3 [⟨some ⟨z,0,none⟩,z,0,c,List.replicate (n*2) 0++[1]⟩,⟨some ⟨b3,o3,none⟩,b3,o3,c3,[1]⟩] [xp,zp,yp,mp])(hn:mp.xs.length=n)(hn0:0<n)(hn9:n<=100)(nm:NZ mp.xs)(hm0:0<mp.n):
 Calls Tryz.prog 32 #[.slice none 0 0,.pointer (some ⟨s,0,none⟩),.slice (some ⟨b3,o3,none⟩) 1 c3,.slice (some ⟨z,0,none⟩) (n*2+1:Nat) c,.slice mp.A n mp.c] w4 fun e w5=> ∃(zq:Value) (A:Option Addr) (b o c':Nat) (rs:List Int) (q5:Option StkSt),e= .returned (.tuple #[zq,.slice A rs.length c'])/\rs.length<=n/\c'<=9223372036854775807/\rs.length<=c'/\lenS q5=lenS q3/\StkLe w4.heap.size q3 q5/\Cg mp.n (val 18446744073709551616 rs) (18446744073709551616^n*18446744073709551616^n)/\
  Lv s w q w5 q5 [⟨A,b,o,c',rs⟩,⟨some ⟨z,0,none⟩,z,0,c,List.replicate (n*2) 0++[1]⟩] [xp,zp,yp,mp]:=by
 have hl:(List.replicate (n*2) (0:Int)++[1]).length=n*2+1:=by simp
 have hp:=(h.nil).perm (((List.Perm.swap (⟨some ⟨b3,o3,none⟩,b3,o3,c3,[1]⟩:Pn) ⟨some ⟨z,0,none⟩,z,0,c,List.replicate (n*2) 0++[1]⟩ [])).cons (nilP w4.heap.size));have C:=divL (u:=⟨some ⟨z,0,none⟩,z,0,c,List.replicate (n*2) 0++[1]⟩) (v:=mp) (l:=0) (ly:=1) hp (by simp) (by simp) (.inr (by simp)) nm (by simp only;rw[hl];omega) (by omega) (by omega) (Nat.zero_le _) (by have:=(h.ok ⟨some ⟨b3,o3,none⟩,b3,o3,c3,[1]⟩ (by simp)).nm.le;simpa using this);unfold Pn.v at C;simp only[hl,hn]at C;refine C.mono ?_;rintro e w5 ⟨zq,⟨A,b,o,c',rs⟩,q5,rfl,lv,nzq,nzr,vq,vr,ll,pq,pr,hle⟩;have ho:=lv.ok ⟨A,b,o,c',rs⟩ (by simp)
 have hv:val 18446744073709551616 rs=18446744073709551616^(n*2)%mp.n:=by
  have h1:val 18446744073709551616 rs=val 18446744073709551616 (List.replicate (n*2) 0++[1])%mp.n:=vr;rw[h1,val_append,val_rep,List.length_replicate];simp[val_cons,val_nil]
 have hlt:=Int.emod_lt_of_pos (18446744073709551616^(n*2)) hm0;have hln:rs.length<=mp.xs.length:=len_sm ho.dg (lv.ok mp (by simp)).dg nzr (by unfold Pn.n at *;omega);refine⟨zq.v,A,b,o,c',rs,q5,rfl,by omega,ho.c9,ho.nm.le,ll,hle,?_,?_⟩
 ·rw[hv,Nat.mul_two,Int.pow_add];exact Cg.emod _
 ·exact lv.sub (by simp) (by simp)
theorem row_take{w:World}{b:Nat}{L us:List Int}(hr:Row .u64 51 w b L)(hs:Go.Big.Src .u64 w b 0 us)(hl:us.length<=L.length):L.take us.length=us:=by
 apply List.ext_getElem (by rw[List.length_take];omega);intro j h1 h2;have c1:=hr.cell (i:=j) (by omega);have c2:=hs j h2;rw[Nat.zero_add,c1]at c2;injection c2 with c2;injection c2 with _ c2;rw[Go.Big.getD_in (xs:=L) (by omega),Go.Big.getD_in h2]at c2;rw[List.getElem_take];exact c2
theorem PnOk.slB{S:List Nat}{p:Pn}(h:PnOk s q w p)(hb:p.b∉S):SlB S w (.slice p.A p.xs.length p.c) p.xs:=
 ⟨p.A,p.c,rfl,h.nm.le,h.nm.max,fun hp=>⟨p.b,p.o,h.nm.addr hp,h.nm.lt hp,hb,h.nm.2.2 hp⟩⟩
structure MwD(s n:Nat)(q:Option StkSt)(w:World)(X:Int)(vx vy vm:Value)(ys ms:List Int)(bz cz bzz czz:Nat)(v16:Value)(wx:World):Prop where
 st: ∃q5,StkAt wx s q5/\StkLe w.heap.size q q5/\lenS q5=lenS q/\NewS s q5 bz/\NewS s q5 bzz
 fc:Fc 51 (StS s q) w wx
 x: ∃vs,SlB [bz,bzz] wx vx vs/\vs.length=n/\DG 18446744073709551616 vs/\Cg (val 18446744073709551616 ms) (val 18446744073709551616 vs) X
 y:SlB [bz,bzz] wx vy ys
 m:SlB [bz,bzz] wx vm ms
 z: ∃L,RoR wx bz cz L
 zz: ∃L,RoR wx bzz czz L
 ne:bz≠bzz
 nb:w.heap.size<=bzz
 zb:bz<w.heap.size
 nc:n*2<=czz
 r: ∃vs,Sl .u64 wx v16 vs/\vs.length=n/\DG 18446744073709551616 vs/\Cg (val 18446744073709551616 ms) (val 18446744073709551616 vs) (18446744073709551616^n*18446744073709551616^n)
theorem fc_block{w5 wx:World}{z:Nat}{L5 Lx:List Int}(f:Fr [z] w5 wx)(h5:Row .u64 51 w5 z L5)(hx:Row .u64 51 wx z Lx)(hl:Lx.length=L5.length):Fc 51 (fun b _=>b=z) w5 wx:=by
 refine⟨f.os,f.tape,f.output,f.size,fun b hb hn=>f.block b hb (by simpa using hn 0),fun b i hb hn=>f.cell (p:=⟨b,i,none⟩) hb (by simpa using hn),fun b L hr=> ?_⟩;by_cases hm:b=z
 ·subst hm
  obtain rfl:=hr.eq h5;exact⟨Lx,hx,hl⟩
 ·exact⟨L,hr.fr f (by simpa using hm),rfl⟩
theorem mw_mid{w5 wx:World}{q5:Option StkSt}{X:Int}{z c b o c' cz bz:Nat}{A:Option Addr}{rs zs L5 Lx:List Int}{xp:Pn}{v16:Value}(h:Lv s w q w5 q5 [⟨A,b,o,c',rs⟩,⟨some ⟨z,0,none⟩,z,0,c,zs⟩] [xp,⟨some ⟨bz,0,none⟩,bz,0,cz,[]⟩,yp,mp])
 (hll:lenS q5=lenS q)(hxl:xp.xs.length=n)(hcg:Cg mp.n xp.n X)(hxz:xp.b≠bz)(hyz:yp.b≠bz)(hmz:mp.b≠bz)(hx4:xp.b<z)(hy4:yp.b<z)(hm4:mp.b<z)(hzw:w.heap.size<=z)(hzb:bz<w.heap.size)(hc:n*2<=c)(hcz:0<cz)(hbz:NewS s q bz)(hnz:NewS s q5 z)
 (f:Fr [z] w5 wx)(h5:Row .u64 51 w5 z L5)(hx:Row .u64 51 wx z Lx)(hl:Lx.length=L5.length)(hcl:c<=L5.length)
 (hv: ∃vs,Sl .u64 wx v16 vs/\vs.length=n/\DG 18446744073709551616 vs/\Cg mp.n (val 18446744073709551616 vs) (18446744073709551616^n*18446744073709551616^n)):
 MwD s n q w X (.slice xp.A n xp.c) (.slice yp.A yp.xs.length yp.c) (.slice mp.A mp.xs.length mp.c) yp.xs mp.xs bz cz z c v16 wx:=by
 have hf:=fc_block f h5 hx hl;have kx:=h.ok xp (by simp);have ky:=h.ok yp (by simp);have km:=h.ok mp (by simp);have kz:=h.ok ⟨some ⟨bz,0,none⟩,bz,0,cz,[]⟩ (by simp);have kc:=h.ok ⟨some ⟨z,0,none⟩,z,0,c,zs⟩ (by simp);have hS: ∀b,b∈[z]->b∈[bz,z]\/w5.heap.size<=b:=fun b hb=> .inl (by simp at hb ⊢;exact .inr hb)
 obtain⟨Lz,hLz,hLl⟩:=kz.nm.rcv.row hcz;have gx:=(kx.slB (S:=[bz,z]) (by simp;omega)).fr f hS;rw[hxl]at gx;refine⟨⟨q5,h.st.fc hf (fun i hh=>hnz.1 hh.symm) (fun p hp i hh=>(hnz.2 p hp).1 hh.symm),h.le,hll,hbz.le h.le hzb,hnz⟩,h.fr.trans hf (fun b i hh hlt=>by omega),⟨xp.xs,gx,hxl,kx.dg,hcg⟩,(ky.slB (S:=[bz,z]) (by simp;omega)).fr f hS,(km.slB (S:=[bz,z]) (by simp;omega)).fr f hS,⟨Lz,hLz.fr f (by simp;omega),by simpa using hLl,kz.nm.max⟩,⟨Lx,hx,by rw[hl];exact hcl,kc.nm.max⟩,by omega,hzw,hzb,hc,hv⟩
theorem mw_full{w5:World}{q5:Option StkSt}{X:Int}{z c b o c' cz bz:Nat}{A:Option Addr}{rs zs:List Int}{xp:Pn}(h:Lv s w q w5 q5 [⟨A,b,o,c',rs⟩,⟨some ⟨z,0,none⟩,z,0,c,zs⟩] [xp,⟨some ⟨bz,0,none⟩,bz,0,cz,[]⟩,yp,mp])
 (hll:lenS q5=lenS q)(hxl:xp.xs.length=n)(hcg:Cg mp.n xp.n X)(hxz:xp.b≠bz)(hyz:yp.b≠bz)(hmz:mp.b≠bz)(hx4:xp.b<z)(hy4:yp.b<z)(hm4:mp.b<z)(hzw:w.heap.size<=z)(hzb:bz<w.heap.size)(hc:n*2+1<=c)(hcz:0<cz)(hbz:NewS s q bz)(hnz:NewS s q5 z)
 (hrl:rs.length=n)(hr:Cg mp.n (val 18446744073709551616 rs) (18446744073709551616^n*18446744073709551616^n)):
 MwD s n q w X (.slice xp.A n xp.c) (.slice yp.A yp.xs.length yp.c) (.slice mp.A mp.xs.length mp.c) yp.xs mp.xs bz cz z c (.slice A rs.length c') w5:=by
 have kc:=h.ok ⟨some ⟨z,0,none⟩,z,0,c,zs⟩ (by simp);have kr:=h.ok ⟨A,b,o,c',rs⟩ (by simp);obtain⟨L,hL,hLl⟩:=kc.nm.rcv.row (by simp only;omega);exact mw_mid h hll hxl hcg hxz hyz hmz hx4 hy4 hm4 hzw hzb (by omega) hcz hbz hnz (Fr.refl _ _) hL hL rfl (by simpa using hLl) ⟨rs,kr.nm.sl,hrl,kr.dg,hr⟩
theorem mw_row{w5:World}{q5:Option StkSt}{z c b o c' cz bz:Nat}{A:Option Addr}{rs:List Int}{xp:Pn}(h:Lv s w q w5 q5 [⟨A,b,o,c',rs⟩,⟨some ⟨z,0,none⟩,z,0,c,List.replicate (n*2) 0++[1]⟩] [xp,⟨some ⟨bz,0,none⟩,bz,0,cz,[]⟩,yp,mp])(hc:n*2+1<=c):
 ∃L,Row .u64 51 w5 z L/\c<=L.length/\L.take n=List.replicate n 0:=by
 have kc:=h.ok ⟨some ⟨z,0,none⟩,z,0,c,List.replicate (n*2) 0++[1]⟩ (by simp);obtain⟨L,hL,hLl⟩:=kc.nm.rcv.row (by simp only;omega);simp only[Nat.zero_add]at hLl;refine⟨L,hL,hLl,?_⟩;have hl:(List.replicate (n*2) (0:Int)++[1]).length=n*2+1:=by simp
 have e:=row_take hL (kc.nm.2.2 (by simp)) (by rw[hl];omega);have e2:=congrArg (List.take n) e;rw[hl,List.take_take,Nat.min_eq_left (by omega),List.take_append_of_le_length (by simp;omega),List.take_replicate,Nat.min_eq_left (by omega)]at e2;exact e2
theorem mw_cut{w5 wx:World}{q5:Option StkSt}{X:Int}{z c b o c' cz bz:Nat}{A:Option Addr}{rs L:List Int}{xp:Pn}(h:Lv s w q w5 q5 [⟨A,b,o,c',rs⟩,⟨some ⟨z,0,none⟩,z,0,c,List.replicate (n*2) 0++[1]⟩] [xp,⟨some ⟨bz,0,none⟩,bz,0,cz,[]⟩,yp,mp])
 (hll:lenS q5=lenS q)(hxl:xp.xs.length=n)(hcg:Cg mp.n xp.n X)(hxz:xp.b≠bz)(hyz:yp.b≠bz)(hmz:mp.b≠bz)(hx4:xp.b<z)(hy4:yp.b<z)(hm4:mp.b<z)(hzw:w.heap.size<=z)(hzb:bz<w.heap.size)(hc:n*2+1<=c)(hcz:0<cz)(hbz:NewS s q bz)(hnz:NewS s q5 z)
 (hrl:rs.length<=n)(hr:Cg mp.n (val 18446744073709551616 rs) (18446744073709551616^n*18446744073709551616^n))
 (hL:Row .u64 51 w5 z L)(hcl:c<=L.length)(ht:L.take n=List.replicate n 0)(f:Fr [z] w5 wx)(hx:Row .u64 51 wx z (Go.Big.spl L 0 rs)):
 MwD s n q w X (.slice xp.A n xp.c) (.slice yp.A yp.xs.length yp.c) (.slice mp.A mp.xs.length mp.c) yp.xs mp.xs bz cz z c (.slice (some ⟨z,0,none⟩) n c) wx:=by
 have kc:=h.ok ⟨some ⟨z,0,none⟩,z,0,c,List.replicate (n*2) 0++[1]⟩ (by simp);have kr:=h.ok ⟨A,b,o,c',rs⟩ (by simp);have hsl:(Go.Big.spl L 0 rs).length=L.length:=spl_len (by omega)
 have hd:DG 18446744073709551616 ((Go.Big.spl L 0 rs).take n):=by
  have e:(Go.Big.spl L 0 rs).take n=Go.Big.spl (List.replicate n 0) 0 rs:=by
   rw[<-ht];unfold Go.Big.spl;rw[List.take_zero,List.take_zero,List.nil_append,List.nil_append,List.take_append,List.take_of_length_le hrl,List.drop_take,Nat.zero_add]
  rw[e];exact spl_dg (DG.rep (by omega) n) kr.dg
 have hl:((Go.Big.spl L 0 rs).take n).length=n:=by rw[List.length_take,hsl];omega
 have hn:RoN wx z c n (Go.Big.spl L 0 rs) ((Go.Big.spl L 0 rs).take n):=⟨hx,by omega,by rw[hsl];exact hcl,kc.nm.max,rfl,hl,hd⟩;exact mw_mid h hll hxl hcg hxz hyz hmz hx4 hy4 hm4 hzw hzb (by omega) hcz hbz hnz f hL hx hsl hcl ⟨_,(hn.slB (S:=[]) (by simp)).sl,hl,hd,by rw[spl_take_val ht (by omega) hrl];exact hr⟩
end
def nilV:Value:= .slice none 0 0
def Pb(w:World)(pb:Nat)(vs:List Value):Prop:=vs.length=16/\w.heap[pb]? =some (.cells vs.toArray 112 (0,0))
section
variable {w w1:World}{pb b i:Nat}{vs:List Value}{L:List Int}{S:List Nat}
theorem Pb.lt(h:Pb w pb vs):pb<w.heap.size:=(Array.getElem?_eq_some_iff.1 h.2).1
theorem Pb.cell(h:Pb w pb vs)(hi:i<16):w.cell? ⟨pb,i,none⟩=some (vs.getD i nilV):=by
 obtain⟨hl,h⟩:=h;unfold World.cell?;rw[h];simp[show i<vs.length by omega,List.getD_eq_getElem?_getD]
theorem Pb.frozen(h:Pb w pb vs)(i:Nat):w.frozen? ⟨pb,i,none⟩=false:=by
 simp[World.frozen?,h.2]
theorem Pb.set(h:Pb w pb vs)(i:Nat)(v:Value):Pb (w.setCell ⟨pb,i,none⟩ v) pb (vs.set i v):=by
 obtain⟨hl,h⟩:=h;refine⟨by simpa using hl,?_⟩;simp[World.setCell,Array.getElem?_modify,h]
theorem Pb.fr(h:Pb w pb vs)(f:Fr S w w1)(hn:pb∉S):Pb w1 pb vs:=⟨h.1,(f.block pb h.lt hn).trans h.2⟩
theorem Pb.fc{T:TypeId}{C:Nat->Nat->Prop}(h:Pb w pb vs)(f:Fc T C w w1)(hn: ∀i,¬ C pb i):Pb w1 pb vs:=⟨h.1,(f.block pb h.lt hn).trans h.2⟩
theorem Pb.row_ne(h:Pb w pb vs)(hr:Row .u64 51 w b L):b≠pb:=by
 rintro rfl;have h2:=h.2;unfold Row at hr;rw[hr]at h2;simp only[Option.some.injEq,Obj.cells.injEq]at h2;exact absurd h2.2.1 (by decide)
theorem Pb.new(w:World):Pb (w.alloc (.cells #[nilV,nilV,nilV,nilV,nilV,nilV,nilV,nilV,nilV,nilV,nilV,nilV,nilV,nilV,nilV,nilV] 112)) w.heap.size (List.replicate 16 nilV):=⟨rfl,heap_alloc_new w _⟩
theorem Fr.setPb(i:Nat)(v:Value):Fr [pb] w (w.setCell ⟨pb,i,none⟩ v):=by
 apply Fr.set _ (.inl (by simp));exact Fr.refl _ _
theorem Fc.setPb{T:TypeId}(h:Pb w pb vs)(i:Nat)(v:Value)(hT: ∀L,¬ Row .u64 T w pb L):Fc T (fun b _=>b=pb) w (w.setCell ⟨pb,i,none⟩ v):=
 Fc.of_fr (B:=[pb]) (Fr.setPb i v) (fun b hb _ _=>by simpa using hb) (fun b hb L hr=>by simp at hb;subst hb;exact hT L hr)
theorem get_set{vs:List Value}{i j:Nat}{v:Value}(hi:i<vs.length):(vs.set i v).getD j nilV=if j=i then v else vs.getD j nilV:=by
 simp only[List.getD_eq_getElem?_getD,List.getElem?_set];by_cases h:i=j
 ·subst h;simp[hi]
 ·rw[if_neg h,if_neg (fun e=>h e.symm)]
end
end Go.Proofs.YthecibbmbnpegaaGreatDoor
