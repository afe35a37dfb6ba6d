/-
  Part 10 of the proof of the law FnExpSum: XAddTo, XIntB, XInt. Conditions: those of each statement.
-/
import Derived.Test.YthecibbmbnpegaaGreatDoorK09
import Derived.Laws.Bits64
import Derived.LaidEqlPtr
import Derived.Deep.RegionHeld3
import Derived.Deep.DrawnRows
set_option linter.unusedSimpArgs false
set_option linter.unusedVariables false
set_option maxRecDepth 100000
set_option maxHeartbeats 4000000
namespace Go.Proofs.YthecibbmbnpegaaGreatDoor
open Go.Big Go.RowKit
def AtPost(w:World)(bz oz n:Nat)(V:Int)(e:Ending)(w':World):Prop:=
 ∃zs c,e= .returned (.tuple #[])/\Wr 51 w' bz oz zs/\zs.length=n/\DG 18446744073709551616 zs/\Fc 51 (In1 bz oz n) w w'/\0<=c/\c<=1/\val 18446744073709551616 zs+18446744073709551616^n*c=V
theorem addTo_any(bz oz cz n:Nat)(Ax:Option Addr)(bx ox cx m:Nat)(L xs:List Int)(w:World)(hz:Wr 51 w bz oz L)(hL:L.length=n)(hdL:DG 18446744073709551616 L)(hx:Nm w Ax bx ox cx xs)(hd:DG 18446744073709551616 xs)(hm:xs.length=m)(hmn:m<=n)(hn9:n<=4000000)(hcz:n<=cz)(hcz9:cz<=maxLen)(hdj:0<m->Dj bx ox m bz oz n):
 Calls Tryz.prog 56 #[.slice (some ⟨bz,oz,none⟩) n cz,.slice Ax m cx] w (AtPost w bz oz n (val 18446744073709551616 L+val 18446744073709551616 xs)):=by
 unfold maxLen at hcz9;have HZ:=κ hz;have HL:=κ hL;have HDL:=κ hdL;by_cases h0:m=0
 ·have hxs:xs=[]:=List.eq_nil_of_length_eq_zero (by omega)
  subst hxs;subst h0;clear hz hL hdL hx hd hdj hm;go_enter Tryz.func56,Tryz.ntmps56;go_wp2_with fail;first|go_end0|refine bodyPost_ret (results_none rfl _ _ _) rfl ?_
  exact⟨L,0,rfl,HZ.out,HL.out,HDL.out,Fc.refl _ _ _,by omega,by omega,by rw[val_nil];omega⟩
 ·have hm0:0<m:=by omega
  have hm0I:(0:Int)<(m:Int):=by omega
  obtain rfl:=hx.addr (by omega);have hxw:=hx.wr (by omega);have hcx:=hx.le;have hcx9:=hx.max;unfold maxLen at hcx9;rw[hm]at hcx;have CV:=κ (addVVw_any bz oz cz bz oz cz bx ox cx m (L.take m) (L.take m) xs w.drew (hz.take m (by omega)).drew (by rw[List.length_take];omega) (by rw[List.length_take];omega) (hz.take m (by omega)).drew.src (hdL.take m) (.inr ⟨rfl,Nat.le_refl _⟩) hm hxw.drew.src hd (.inl ((hdj hm0).sub1 (Nat.le_refl _) hmn)) (by omega));have HM:=κ hm;clear hz hL hdL hx hd hdj hm hxw h0;have hcm:m<=cz:=by omega
  go_enter Tryz.func56,Tryz.ntmps56;go_wp2_with fail;go_region_with (go_at_call 43;refine(CV.out).mono ?_;rintro e w2 ⟨zs,k,rfl,hz2,f2,hzl,hzd,hk0,hk1,hv⟩;have HZ2:=κ hz2;have F2:=κ f2;have HZL:=κ hzl;have HZD:=κ hzd;have HV:=κ hv;clear hz2 f2 hzl hzd hv);clear CV;have F12:=κ (show Fc 51 (In1 bz oz n) w w2 from F2.out.of_drew.mono (fun x i hh _=>by unfold In1 at *;omega));have HU:=κ (HZ.out.upd (i:=0) (zs:=zs) HZ2.out (by rw[HZL.out];exact F2.out.of_drew) (by rw[HZL.out,HL.out];omega));have ZL:=κ (show(spl L 0 zs).length=n by rw[spl_len (by rw[HZL.out,HL.out];omega),HL.out])
  have HV2:=κ (show val 18446744073709551616 (spl L 0 zs)+18446744073709551616^m*k=val 18446744073709551616 L+val 18446744073709551616 xs by
   have h1:=HV.out;rw[val_spl (by rw[HZL.out,HL.out];omega),HZL.out,List.drop_zero,Int.pow_zero,Int.one_mul];omega);have HD2:=κ (show DG 18446744073709551616 (spl L 0 zs)from spl_dg HDL.out HZD.out);rcases(by omega:k=0\/k=1)with rfl|rfl
  ·go_wp2_with fail
   first|go_end0|refine bodyPost_ret (results_none rfl _ _ _) rfl ?_
   exact⟨_,0,rfl,HU.out,ZL.out,HD2.out,F12.out,by omega,by omega,by have:=HV2.out;omega⟩
  ·by_cases hlt:m<n
   ·have hltI:(m:Int)<(n:Int):=by omega
    have hczm: ¬cz=m:=by omega
    have CW:=κ (addVWw_any bz (oz+m) (cz-m) bz (oz+m) (cz-m) (n-m) ((spl L 0 zs).drop m) ((spl L 0 zs).drop m) 1 w2.drew (HU.out.drop m (by rw[ZL.out];omega)).drew (by rw[List.length_drop,ZL.out]) (by rw[List.length_drop,ZL.out]) (HU.out.drop m (by rw[ZL.out];omega)).drew (HD2.out.drop m) (.inr ⟨rfl,rfl⟩) (by omega) (by omega) (by omega) (by omega) (by unfold maxLen;omega) (by unfold maxLen;omega) (by omega) (by omega));go_wp2_with fail;go_region_with (go_at_call 44;refine(CW.out).mono ?_;rintro e w3 ⟨zs2,k2,rfl,hz3,f3,hzl2,hzd2,hk20,hk21,hv2⟩;have HZ3:=κ hz3;have F3:=κ f3;have HZL2:=κ hzl2;have HZD2:=κ hzd2;have HV3:=κ hv2;clear hz3 f3 hzl2 hzd2 hv2);clear CW;go_wp2_with fail;first|go_end0|refine bodyPost_ret (results_none rfl _ _ _) rfl ?_
    have hU3:=HU.out.upd (i:=m) (zs:=zs2) HZ3.out (by rw[HZL2.out];exact F3.out.of_drew) (by rw[HZL2.out,ZL.out];omega);refine⟨_,k2,rfl,hU3,by rw[spl_len (by rw[HZL2.out,ZL.out];omega),ZL.out],spl_dg HD2.out HZD2.out,F12.out.t (F3.out.of_drew.mono (fun x i hh _=>by unfold In1 at *;omega)),hk20,hk21,?_⟩;have h2:=HV2.out;have h3:=HV3.out;have e2:(18446744073709551616:Int)^n=18446744073709551616^m*18446744073709551616^(n-m):=by rw[<-Int.pow_add];congr 1;omega
    rw[val_spl (by rw[HZL2.out,ZL.out];omega),HZL2.out,List.take_of_length_le (by rw[List.length_drop,ZL.out];omega),e2];grind
   ·obtain rfl:m=n:=by omega
    go_wp2_with fail;first|go_end0|refine bodyPost_ret (results_none rfl _ _ _) rfl ?_
    exact⟨_,1,rfl,HU.out,ZL.out,HD2.out,F12.out,by omega,by omega,HV2.out⟩
def IntB(w:World)(p:Nat)(neg:Bool)(A:Option Addr)(l c:Nat):Prop:=w.heap[p]? =some (.cells #[.bool neg,.slice A l c] 45 (0,0))
def sg(neg:Bool)(v:Int):Int:=if neg then -v else v
theorem sg_f(v:Int):sg false v=v:=rfl
theorem sg_t(v:Int):sg true v= -v:=rfl
section
variable {w w1:World}{p b o c l l' c':Nat}{neg neg':Bool}{A A':Option Addr}{xs L:List Int}{S:Nat->Nat->Prop}
theorem IntB.lt(h:IntB w p neg A l c):p<w.heap.size:=(Array.getElem?_eq_some_iff.1 h).1
theorem IntB.cell0(h:IntB w p neg A l c):w.cell? ⟨p,0,none⟩=some (.bool neg):=by unfold World.cell?;unfold IntB at h;simp[h]
theorem IntB.cell1(h:IntB w p neg A l c):w.cell? ⟨p,1,none⟩=some (.slice A l c):=by unfold World.cell?;unfold IntB at h;simp[h]
theorem IntB.frozen(h:IntB w p neg A l c)(i:Nat):w.frozen? ⟨p,i,none⟩=false:=by unfold IntB at h;simp[World.frozen?,h]
theorem IntB.set0(h:IntB w p neg A l c)(n':Bool):IntB (w.setCell ⟨p,0,none⟩ (.bool n')) p n' A l c:=by unfold IntB at h ⊢;simp[World.setCell,Array.getElem?_modify,h]
theorem IntB.set1(h:IntB w p neg A l c)(A':Option Addr)(l' c':Nat):IntB (w.setCell ⟨p,1,none⟩ (.slice A' l' c')) p neg A' l' c':=by unfold IntB at h ⊢;simp[World.setCell,Array.getElem?_modify,h]
theorem IntB.fc(h:IntB w p neg A l c)(hf:Fc 51 S w w1)(hS: ∀i,¬ S p i):IntB w1 p neg A l c:=(hf.block p ((Array.getElem?_eq_some_iff.1 h).1) hS).trans h
theorem IntB.fr0(h:IntB w p neg A l c)(hf:Fr [] w w1):IntB w1 p neg A l c:=(hf.block p ((Array.getElem?_eq_some_iff.1 h).1) (by simp)).trans h
theorem IntB.drew(h:IntB w p neg A l c):IntB w.drew p neg A l c:=h
theorem IntB.row_ne(h:IntB w p neg A l c)(hr:Row .u64 51 w b L):b≠p:=by
 rintro rfl;unfold Row at hr;unfold IntB at h;rw[hr]at h;simp only[Option.some.injEq,Obj.cells.injEq]at h;have:=congrArg (fun a=>a[0]?) h.1;cases L<;>simp at this
theorem IntB.rcv_ne(h:IntB w p neg A l c){Az:Option Addr}{bz oz cz:Nat}(hr:Rcv w Az bz oz cz)(hc:0<cz):bz≠p:=by
 obtain⟨L,hL,_⟩:=hr.row hc;exact h.row_ne hL
theorem IntB.stk(h:IntB w p neg A l c){s:Nat}{q:Option StkSt}(hs:StkAt w s q)(i:Nat): ¬StS s q p i:=by
 unfold IntB at h;cases q with
 |none=>
  rintro rfl;unfold StkAt at hs;rw[h]at hs;simp at hs
 |some q=>
  obtain⟨h1,h2,⟨L,hL,_⟩,_⟩:=hs;rintro(rfl|rfl|⟨rfl,_⟩)
  ·rw[h]at h1;simp at h1
  ·rw[h]at h2;simp at h2
  ·exact IntB.row_ne h hL rfl
theorem Nm.off_int(hx:Nm w A b o c xs){n:Bool}{A1:Option Addr}{l1 c1:Nat}(h:IntB w p n A1 l1 c1):Off (fun x _=>x=p) b o xs.length:=by
 intro i h1 h2 e;exact h.rcv_ne hx.rcv (by have:=hx.1;omega) e
theorem IntB.fc_set(h:IntB w p neg A l c){a:Addr}(ha:a.block=p)(v:Value):Fc 51 (fun x _=>x=p) w (w.setCell a v):=by
 refine Fc.of_fr (B:=[p]) (by apply Fr.set _ (.inl (by simp[ha]));exact Fr.refl _ _) (fun b hb _ i=>by simpa using hb) (fun b hb L hr=> ?_);simp at hb;exact h.row_ne hr hb
end
end Go.Proofs.YthecibbmbnpegaaGreatDoor
namespace Go.Proofs.YthecibbmbnpegaaGreatDoor
open Go.Big Go.RowKit
attribute [local go_sem ↓] Go.wp_at_zero Go.wp_at_succ
def IntP(w:World)(pz:Nat)(A:Option Addr)(bz oz cz k:Nat)(V:Int)(e:Ending)(w':World):Prop:=
 ∃neg' A' b' o' c' zs,e= .returned (.pointer (some ⟨pz,0,none⟩))/\IntB w' pz neg' A' zs.length c'/\Nm w' A' b' o' c' zs/\DG 18446744073709551616 zs/\NZ zs/\sg neg' (val 18446744073709551616 zs)=V/\((A'=A/\b'=bz/\o'=oz/\c'=cz)\/(w.heap.size<=b'/\c'<=2000000))/\Fc 51 (fun b i=>b=pz\/In1 bz oz k b i) w w'
theorem ResR.val{w:World}{A:Option Addr}{b o c:Nat}{S:Nat->Nat->Prop}{V:Int}{e:Ending}{w':World}(h:ResR w A b o c S V e w'): ∃A' n c',e= .returned (.slice A' n c'):=by
 obtain⟨A',b',o',c',zs,h1,_⟩:=h;exact⟨A',_,c',h1⟩
theorem ResR.pos{w:World}{A A':Option Addr}{b o c n c':Nat}{S:Nat->Nat->Prop}{V:Int}{w':World}(h:ResR w A b o c S V (.returned (.slice A' n c')) w')(hV:V≠0):0<n:=by
 obtain⟨A1,b',o',c1,zs,h1,_,_,_,h5,_⟩:=h;injection h1 with h1;injection h1 with h1 h2 h3;subst h2;rcases Nat.eq_zero_or_pos zs.length with h0|h0
 ·have:zs=[]:=List.eq_nil_of_length_eq_zero h0
  subst this;exact absurd h5.symm (by rw[val_nil];exact hV)
 ·exact h0
theorem int_mid{w w1 w2:World}{pz:Nat}{nz:Bool}{A A0:Option Addr}{l bz oz cz c0 k:Nat}{V:Int}{e:Ending}(h:IntB w pz nz A0 l c0)(f1:Fr [] w w1)(hpb:pz≠bz)(hr:ResR w1 A bz oz cz (In1 bz oz k) V e w2):IntB w2 pz nz A0 l c0:=by
 obtain⟨A',b',o',c',zs,_,_,_,_,_,_,hf⟩:=hr;exact(h.fr0 f1).fc hf (fun i hh=>hpb hh.1)
theorem int_fin{w w1 w2 w3:World}{pz:Nat}{nz:Bool}{A A':Option Addr}{l bz oz cz k n c':Nat}{V U:Int}(neg':Bool)(h:IntB w pz nz A l cz)(f1:Fr [] w w1)(hpb:pz≠bz)(hr:ResR w1 A bz oz cz (In1 bz oz k) V (.returned (.slice A' n c')) w2)(hV:sg neg' V=U)(hw:w3=((w2.setCell ⟨pz,1,none⟩ (.slice A' n c')).setCell ⟨pz,0,none⟩ (.bool neg'))):IntP w pz A bz oz cz k U (.returned (.pointer (some ⟨pz,0,none⟩))) w3:=by
 have h2:=int_mid h f1 hpb hr;subst hw;obtain⟨A1,b1,o1,c1,zs,e,hn,hd,hz,hv,hs,hf⟩:=hr;injection e with e;injection e with e1 e2 e3;subst e1 e2 e3;have h3:=h2.set1 A' zs.length c';have g2:=h2.fc_set (a:=⟨pz,1,none⟩) rfl (.slice A' zs.length c');have g3:=h3.fc_set (a:=⟨pz,0,none⟩) rfl (.bool neg');have hn2:=(hn.fc g2 (hn.off_int h2)).fc g3 (Nm.off_int (hn.fc g2 (hn.off_int h2)) h3);refine⟨neg',A',b1,o1,c',zs,rfl,h3.set0 neg',hn2,hd,hz,by rw[hv];exact hV,hs.imp id (fun h=>⟨Nat.le_trans f1.size h.1,h.2⟩),?_⟩;exact(Fc.fr0 f1 _ _).t ((hf.mono (fun _ _ h _=> .inr h)).t ((g2.mono (fun _ _ h _=> .inl h)).t (g3.mono (fun _ _ h _=> .inl h))))
theorem Nm.sw{w:World}{A:Option Addr}{b o c:Nat}{xs:List Int}(h:Nm w A b o c xs)(hd:DG 18446744073709551616 xs)(hz:NZ xs):SW w (.slice A xs.length c) (val 18446744073709551616 xs):=⟨xs,h.sl,hd,hz,rfl⟩
theorem cmpN_any(Ax:Option Addr)(bx ox cx:Nat)(xs:List Int)(Ay:Option Addr)(by_ oy cy:Nat)(ys:List Int)(w:World)(hx:Nm w Ax bx ox cx xs)(hd:DG 18446744073709551616 xs)(hzx:NZ xs)(hy:Nm w Ay by_ oy cy ys)(hd':DG 18446744073709551616 ys)(hzy:NZ ys):
 Calls Tryz.prog 47 #[.slice Ax xs.length cx,.slice Ay ys.length cy] w fun e w'=>e= .returned (.int .i64 (cmpI (val 18446744073709551616 xs) (val 18446744073709551616 ys)))/\Fr [] w w':=bcmp_any _ _ _ _ w (hx.sw hd hzx) (hy.sw hd' hzy)
theorem cmpI_ge{n m:Int}(h:m<=n):0<=cmpI n m:=by unfold cmpI;split<;>(try split)<;>omega
theorem cmpI_neg{n m:Int}(h:n<m):cmpI n m<0:=by unfold cmpI;split<;>(try split)<;>omega
theorem intSub_any(k pz:Nat)(nz:Bool)(A:Option Addr)(l bz oz cz px:Nat)(Ax:Option Addr)(bx ox cx:Nat)(xs:List Int)(py:Nat)(Ay:Option Addr)(by_ oy cy:Nat)(ys:List Int)(w:World)
 (hz:IntB w pz nz A l cz)(hr:Rcv w A bz oz cz)(hlc:l<=cz)(hpb:pz≠bz)(hzx':pz≠px)(hzy':pz≠py)(hxb:px≠bz)(hyb:py≠bz)(hX:IntB w px false Ax xs.length cx)(hx:Nm w Ax bx ox cx xs)(hd:DG 18446744073709551616 xs)(hzx:NZ xs)
 (hY:IntB w py false Ay ys.length cy)(hy:Nm w Ay by_ oy cy ys)(hd':DG 18446744073709551616 ys)(hzy:NZ ys)(hl:xs.length<=k)(hl':ys.length<=k)(hk:k<=1000000)(hcx9:cx<=9223372036854775807)(hcy9:cy<=9223372036854775807)(hcz9:cz<=9223372036854775807)
 (hax:0<xs.length->Al bz oz k bx ox xs.length)(hay:0<ys.length->Al bz oz k by_ oy ys.length):
 Calls Tryz.prog 83 #[.pointer (some ⟨pz,0,none⟩),.pointer (some ⟨px,0,none⟩),.pointer (some ⟨py,0,none⟩)] w (IntP w pz A bz oz cz k (val 18446744073709551616 xs-val 18446744073709551616 ys)):=by
 have CC:=κ (fun W (f:Fr [] w W)=>cmpN_any Ax bx ox cx xs Ay by_ oy cy ys W (hx.fr0 f) hd hzx (hy.fr0 f) hd' hzy);obtain⟨m,hm⟩: ∃m,m=xs.length:=⟨_,rfl⟩;obtain⟨n,hn⟩: ∃n,n=ys.length:=⟨_,rfl⟩;obtain⟨X,hXv⟩: ∃X,X=val 18446744073709551616 xs:=⟨_,rfl⟩;obtain⟨Y,hYv⟩: ∃Y,Y=val 18446744073709551616 ys:=⟨_,rfl⟩;obtain⟨c,hc⟩: ∃c,c=cmpI X Y:=⟨_,rfl⟩;rw[<-hm,<- hn,<- hXv,<- hYv,<- hc]at CC;rw[<-hXv,<- hYv];have cx0:=hX.cell0;have cx1:=hX.cell1;have cy0:=hY.cell0;have cy1:=hY.cell1;rw[<-hm]at cx1 hX;rw[<-hn]at cy1 hY;have HX:=κ hX;have HY:=κ hY;have HZ:=κ hz;have HPB:=κ hpb;have hzx1: ¬pz=px:=hzx';have hzx2: ¬px=pz:=fun e=>hzx' e.symm
 have hzy1: ¬pz=py:=hzy';have hzy2: ¬py=pz:=fun e=>hzy' e.symm
 clear hzx' hzy';have HXB:=κ hxb;have HYB:=κ hyb;by_cases hle:Y<=X
 ·have hc0:0<=c:=by rw[hc];exact cmpI_ge hle
  have CS:=κ (fun W (f:Fr [] w W)=>nsubR_any k A l bz oz cz Ax bx ox cx xs Ay by_ oy cy ys W (hr.fc (Fc.fr0 f 51 (fun _ _=>False))) hlc (hx.fr0 f) hd hzx (hy.fr0 f) hd' hzy (by omega) hk hcx9 hcy9 hcz9 hax hay (by rw[<-hXv,<- hYv];exact hle));rw[<-hm,<- hn,<- hXv,<- hYv]at CS;clear hz hX hY hm hn hXv hYv hc hx hy hd hd' hzx hzy hr hax hay hl hl' hle hpb hxb hyb;go_enter Tryz.func83,Tryz.ntmps83;go_wp2_with fail;go_quiet (fail);go_wp2_with fail;go_region_held3 (fun w'=>w'.cell? ⟨px,1,none⟩=some (.slice Ax m cx)/\w'.cell? ⟨py,1,none⟩=some (.slice Ay n cy)) (first|exact⟨by assumption,by assumption⟩|go_keep) ((go_at_call 47;refine(CC.out _ ((Fr.refl _ _).drewN _).drew).mono ?_;rintro e w1 ⟨rfl,f1⟩;have F1:=κ (show Fr [] w w1 from⟨f1.os,f1.tape,f1.output,f1.size,f1.block⟩);clear f1;have cx2:=(HX.out.fr0 F1.out).cell1;have cy2:=(HY.out.fr0 F1.out).cell1;have cz2:=(HZ.out.fr0 F1.out).cell1));clear CC cx0 cx1 cy0 cy1;go_wp2_with fail;go_region_with (go_at_call 40;refine(CS.out _ F1.out.drew).mono ?_;intro e w2 hm;have HM:=κ hm;obtain⟨A',n0,c',rfl⟩:=hm.val;have HI:=κ (int_mid HZ.out F1.out.drew HPB.out hm);have z1:=HI.out.cell1;have z0:=HI.out.cell0;have y1:=HI.out.frozen 1;have y0:=HI.out.frozen 0;clear hm)
  all_goals (
   clear CS cx2 cy2 cz2;rcases Nat.eq_zero_or_pos n0 with rfl|hn0)
  all_goals (
   go_wp2_with fail;go_ret;exact int_fin false HZ.out F1.out.drew HPB.out HM.out (sg_f _) rfl)
 ·have hc0:c<0:=by rw[hc];exact cmpI_neg (by omega)
  have CS:=κ (fun W (f:Fr [] w W)=>nsubR_any k A l bz oz cz Ay by_ oy cy ys Ax bx ox cx xs W (hr.fc (Fc.fr0 f 51 (fun _ _=>False))) hlc (hy.fr0 f) hd' hzy (hx.fr0 f) hd hzx (by omega) hk hcy9 hcx9 hcz9 hay hax (by rw[<-hXv,<- hYv];omega));rw[<-hm,<- hn,<- hXv,<- hYv]at CS;have hne:Y-X≠0:=by omega
  have HNE:=κ hne;clear hz hX hY hm hn hXv hYv hc hx hy hd hd' hzx hzy hr hax hay hl hl' hle hpb hxb hyb hne;go_enter Tryz.func83,Tryz.ntmps83;go_wp2_with fail;go_quiet (fail);go_wp2_with fail;go_region_held3 (fun w'=>w'.cell? ⟨px,1,none⟩=some (.slice Ax m cx)/\w'.cell? ⟨py,1,none⟩=some (.slice Ay n cy)) (first|exact⟨by assumption,by assumption⟩|go_keep) ((go_at_call 47;refine(CC.out _ ((Fr.refl _ _).drewN _).drew).mono ?_;rintro e w1 ⟨rfl,f1⟩;have F1:=κ (show Fr [] w w1 from⟨f1.os,f1.tape,f1.output,f1.size,f1.block⟩);clear f1;have cx2:=(HX.out.fr0 F1.out).cell1;have cy2:=(HY.out.fr0 F1.out).cell1;have cz2:=(HZ.out.fr0 F1.out).cell1));clear CC cx0 cx1 cy0 cy1;go_wp2_with fail;go_region_with (go_at_call 40;refine(CS.out _ F1.out.drew).mono ?_;intro e w2 hm;have HM:=κ hm;obtain⟨A',n0,c',rfl⟩:=hm.val;have hn0:0<n0:=hm.pos HNE.out;have HI:=κ (int_mid HZ.out F1.out.drew HPB.out hm);have z1:=HI.out.cell1;have z0:=HI.out.cell0;have y1:=HI.out.frozen 1;have y0:=HI.out.frozen 0;clear hm)
  all_goals (
   clear CS cx2 cy2 cz2;go_wp2_with fail;go_ret;exact int_fin true HZ.out F1.out.drew HPB.out HM.out (by rw[sg_t];omega) rfl)
theorem ResR.zero{w:World}{A A':Option Addr}{b o c c':Nat}{S:Nat->Nat->Prop}{V:Int}{w':World}(h:ResR w A b o c S V (.returned (.slice A' 0 c')) w'):V=0:=by
 rcases(by omega:V=0\/V≠0)with h0|h0
 ·exact h0
 ·have:=h.pos h0;omega
theorem intAdd_any(k pz:Nat)(nz:Bool)(A:Option Addr)(l bz oz cz px:Nat)(sx:Bool)(Ax:Option Addr)(bx ox cx:Nat)(xs:List Int)(py:Nat)(Ay:Option Addr)(by_ oy cy:Nat)(ys:List Int)(w:World)
 (hz:IntB w pz nz A l cz)(hr:Rcv w A bz oz cz)(hlc:l<=cz)(hpb:pz≠bz)(hzy':pz≠py)(hxb:px≠bz)(hyb:py≠bz)(hX:IntB w px sx Ax xs.length cx)(hx:Nm w Ax bx ox cx xs)(hd:DG 18446744073709551616 xs)(hzx:NZ xs)
 (hY:IntB w py false Ay ys.length cy)(hy:Nm w Ay by_ oy cy ys)(hd':DG 18446744073709551616 ys)(hzy:NZ ys)(hl:xs.length<k)(hl':ys.length<k)(hk:k<=1000000)(hcx9:cx<=9223372036854775807)(hcy9:cy<=9223372036854775807)(hcz9:cz<=9223372036854775807)
 (hax:0<xs.length->Al bz oz k bx ox xs.length)(hay:0<ys.length->Al bz oz k by_ oy ys.length):
 Calls Tryz.prog 63 #[.pointer (some ⟨pz,0,none⟩),.pointer (some ⟨px,0,none⟩),.pointer (some ⟨py,0,none⟩)] w (IntP w pz A bz oz cz k (sg sx (val 18446744073709551616 xs)+val 18446744073709551616 ys)):=by
 have CC:=κ (fun W (f:Fr [] w W)=>cmpN_any Ax bx ox cx xs Ay by_ oy cy ys W (hx.fr0 f) hd hzx (hy.fr0 f) hd' hzy);obtain⟨m,hm⟩: ∃m,m=xs.length:=⟨_,rfl⟩;obtain⟨n,hn⟩: ∃n,n=ys.length:=⟨_,rfl⟩;obtain⟨X,hXv⟩: ∃X,X=val 18446744073709551616 xs:=⟨_,rfl⟩;obtain⟨Y,hYv⟩: ∃Y,Y=val 18446744073709551616 ys:=⟨_,rfl⟩;obtain⟨c,hc⟩: ∃c,c=cmpI X Y:=⟨_,rfl⟩;rw[<-hm,<- hn,<- hXv,<- hYv,<- hc]at CC;rw[<-hXv,<- hYv];have cx0:=hX.cell0;have cx1:=hX.cell1;have cy0:=hY.cell0;have cy1:=hY.cell1;have cz1:=hz.cell1;rw[<-hm]at cx1 hX;rw[<-hn]at cy1 hY;have HX:=κ hX;have HY:=κ hY;have HZ:=κ hz;have HPB:=κ hpb;have hzy1: ¬pz=py:=hzy';have hzy2: ¬py=pz:=fun e=>hzy' e.symm
 clear hzy';have HXB:=κ hxb;have HYB:=κ hyb;cases sx with
 |false=>
  rw[sg_f];have CA:=κ (fun W (f:Fr [] w W)=>naddR_any k A l bz oz cz Ax bx ox cx xs Ay by_ oy cy ys W (hr.fc (Fc.fr0 f 51 (fun _ _=>False))) hlc (hx.fr0 f) hd hzx (hy.fr0 f) hd' hzy hl hl' hk hcx9 hcy9 hcz9 hax hay);rw[<-hm,<- hn,<- hXv,<- hYv]at CA;clear hz hX hY hm hn hXv hYv hc hx hy hd hd' hzx hzy hr hax hay hl hl' hpb hxb hyb CC;go_enter Tryz.func63,Tryz.ntmps63;go_wp2_with fail;go_quiet (fail);go_wp2_with fail;go_region_with (go_at_call 27;refine(CA.out _ ((Fr.refl _ _).drewN _).drew).mono ?_;intro e w2 hm;have HM:=κ hm;obtain⟨A',n0,c',rfl⟩:=hm.val;have HI:=κ (int_mid HZ.out ((Fr.refl _ _).drewN _).drew HPB.out hm);have z1:=HI.out.cell1;have z0:=HI.out.cell0;have y1:=HI.out.frozen 1;have y0:=HI.out.frozen 0;clear hm)
  all_goals (
   clear CA cx0 cx1 cy0 cy1 cz1;rcases Nat.eq_zero_or_pos n0 with rfl|hn0)
  all_goals (
   go_wp2_with fail;go_ret;exact int_fin false HZ.out ((Fr.refl _ _).drewN _).drew HPB.out HM.out (sg_f _) rfl)
 |true=>
  rw[sg_t];by_cases hle:Y<=X
  ·have hc0:0<=c:=by rw[hc];exact cmpI_ge hle
   have CS:=κ (fun W (f:Fr [] w W)=>nsubR_any k A l bz oz cz Ax bx ox cx xs Ay by_ oy cy ys W (hr.fc (Fc.fr0 f 51 (fun _ _=>False))) hlc (hx.fr0 f) hd hzx (hy.fr0 f) hd' hzy (by omega) hk hcx9 hcy9 hcz9 hax hay (by rw[<-hXv,<- hYv];exact hle));rw[<-hm,<- hn,<- hXv,<- hYv]at CS;clear hz hX hY hm hn hXv hYv hc hx hy hd hd' hzx hzy hr hax hay hl hl' hle hpb hxb hyb cz1;go_enter Tryz.func63,Tryz.ntmps63;go_wp2_with fail;go_quiet (fail);go_wp2_with fail;go_region_held3 (fun w'=>w'.cell? ⟨px,1,none⟩=some (.slice Ax m cx)/\w'.cell? ⟨py,1,none⟩=some (.slice Ay n cy)) (first|exact⟨by assumption,by assumption⟩|go_keep) ((go_at_call 47;refine(CC.out _ ((Fr.refl _ _).drewN _).drew).mono ?_;rintro e w1 ⟨rfl,f1⟩;have F1:=κ (show Fr [] w w1 from⟨f1.os,f1.tape,f1.output,f1.size,f1.block⟩);clear f1;have cx2:=(HX.out.fr0 F1.out).cell1;have cy2:=(HY.out.fr0 F1.out).cell1;have cz2:=(HZ.out.fr0 F1.out).cell1));clear CC cx0 cx1 cy0 cy1;go_wp2_with fail;go_region_with (go_at_call 40;refine(CS.out _ F1.out.drew).mono ?_;intro e w2 hm;have HM:=κ hm;obtain⟨A',n0,c',rfl⟩:=hm.val;have HI:=κ (int_mid HZ.out F1.out.drew HPB.out hm);have z1:=HI.out.cell1;have z0:=HI.out.cell0;have y1:=HI.out.frozen 1;have y0:=HI.out.frozen 0;clear hm)
   all_goals (
    clear CS cx2 cy2 cz2;rcases Nat.eq_zero_or_pos n0 with rfl|hn0)
   all_goals (
    go_wp2_with fail;go_ret
    first
     |exact int_fin true HZ.out F1.out.drew HPB.out HM.out (by rw[sg_t];omega) rfl
     |exact int_fin false HZ.out F1.out.drew HPB.out HM.out (by rw[sg_f];have:=HM.out.zero;omega) rfl)
  ·have hc0:c<0:=by rw[hc];exact cmpI_neg (by omega)
   have CS:=κ (fun W (f:Fr [] w W)=>nsubR_any k A l bz oz cz Ay by_ oy cy ys Ax bx ox cx xs W (hr.fc (Fc.fr0 f 51 (fun _ _=>False))) hlc (hy.fr0 f) hd' hzy (hx.fr0 f) hd hzx (by omega) hk hcy9 hcx9 hcz9 hay hax (by rw[<-hXv,<- hYv];omega));rw[<-hm,<- hn,<- hXv,<- hYv]at CS;clear hz hX hY hm hn hXv hYv hc hx hy hd hd' hzx hzy hr hax hay hl hl' hle hpb hxb hyb cz1;go_enter Tryz.func63,Tryz.ntmps63;go_wp2_with fail;go_quiet (fail);go_wp2_with fail;go_region_held3 (fun w'=>w'.cell? ⟨px,1,none⟩=some (.slice Ax m cx)/\w'.cell? ⟨py,1,none⟩=some (.slice Ay n cy)) (first|exact⟨by assumption,by assumption⟩|go_keep) ((go_at_call 47;refine(CC.out _ ((Fr.refl _ _).drewN _).drew).mono ?_;rintro e w1 ⟨rfl,f1⟩;have F1:=κ (show Fr [] w w1 from⟨f1.os,f1.tape,f1.output,f1.size,f1.block⟩);clear f1;have cx2:=(HX.out.fr0 F1.out).cell1;have cy2:=(HY.out.fr0 F1.out).cell1;have cz2:=(HZ.out.fr0 F1.out).cell1));clear CC cx0 cx1 cy0 cy1;go_wp2_with fail;go_region_with (go_at_call 40;refine(CS.out _ F1.out.drew).mono ?_;intro e w2 hm;have HM:=κ hm;obtain⟨A',n0,c',rfl⟩:=hm.val;have HI:=κ (int_mid HZ.out F1.out.drew HPB.out hm);have z1:=HI.out.cell1;have z0:=HI.out.cell0;have y1:=HI.out.frozen 1;have y0:=HI.out.frozen 0;clear hm)
   all_goals (
    clear CS cx2 cy2 cz2;rcases Nat.eq_zero_or_pos n0 with rfl|hn0)
   all_goals (
    go_wp2_with fail;go_ret;exact int_fin false HZ.out F1.out.drew HPB.out HM.out (by rw[sg_f];omega) rfl)
end Go.Proofs.YthecibbmbnpegaaGreatDoor
