/-
  Part 40 of the proof of the law FnExpSum: XIntQ. Conditions: those of each statement.
-/
import Derived.Test.YthecibbmbnpegaaGreatDoorK39
import Derived.Laws.Bits64
set_option linter.unusedSimpArgs false
set_option linter.unusedVariables false
set_option maxRecDepth 100000
set_option maxHeartbeats 8000000
namespace Go.Proofs.YthecibbmbnpegaaGreatDoor
open Go.Big Go.RowKit
attribute [local go_sem ↓] Go.wp_at_zero Go.wp_at_succ
theorem IntB.far{w:World}{p r i l c:Nat}{neg:Bool}{A:Option Addr}(h:IntB w p neg A l c)(hne:r≠p)(v:Value):IntB (w.setCell ⟨r,i,none⟩ v) p neg A l c:=by
 have f:Fr [r] w (w.setCell ⟨r,i,none⟩ v):=by apply Fr.set _ (.inl (by simp));exact Fr.refl _ _
 exact(f.block p h.lt (by simpa using hne.symm)).trans h
structure QrM(pz pr px py:Nat)(nz nr:Bool)(A:Option Addr)(bz oz cz:Nat)(Ar:Option Addr)(br or_ cr:Nat)(Ax:Option Addr)(m cx:Nat)(Ay:Option Addr)(n cy:Nat)(X Y:Int)(w:World)(A1:Option Addr)(b1 o1 c1:Nat)(qs:List Int)(A2:Option Addr)(b2 o2 c2:Nat)(rs:List Int)(w2 wx:World):Prop where
 d:DzR A bz oz cz Ar br or_ cr X Y w A1 b1 o1 c1 qs A2 b2 o2 c2 rs w2
 z:IntB wx pz nz A1 qs.length c1
 r:IntB wx pr nr A2 rs.length c2
 x:IntB wx px false Ax m cx
 y:IntB wx py false Ay n cy
 f:Fc 51 (fun b _=>b=pz\/b=pr) w2 wx
def QrP(pz pr:Nat)(A:Option Addr)(bz oz cz:Nat)(Ar:Option Addr)(br or_ cr:Nat)(X Y:Int)(w:World)(e:Ending)(w':World):Prop:=
 ∃A1 b1 o1 c1 qs A2 b2 o2 c2 rs,e= .returned (.tuple #[.pointer (some ⟨pz,0,none⟩),.pointer (some ⟨pr,0,none⟩)])/\IntB w' pz false A1 qs.length c1/\IntB w' pr false A2 rs.length c2/\Nm w' A1 b1 o1 c1 qs/\DG 18446744073709551616 qs/\NZ qs/\val 18446744073709551616 qs=X/Y/\PlR w A bz oz cz A1 b1 o1 c1/\
  Nm w' A2 b2 o2 c2 rs/\DG 18446744073709551616 rs/\NZ rs/\val 18446744073709551616 rs=X%Y/\PlR w Ar br or_ cr A2 b2 o2 c2/\((cz=0\/cr=0\/bz≠br)->c1=0\/c2=0\/b1≠b2)/\Fc 51 (fun b i=>b=pz\/b=pr\/In1 bz oz cz b i\/In1 br or_ cr b i) w w'
section
variable {w:World}{pz pr px py:Nat}{nz nr:Bool}{A:Option Addr}{l bz oz cz:Nat}{Ar:Option Addr}{lr br or_ cr:Nat}{Ax:Option Addr}{bx ox cx:Nat}{Ay:Option Addr}{by_ oy cy:Nat}{xs ys:List Int}
theorem dz_keep{X Y:Int}{A1:Option Addr}{b1 o1 c1:Nat}{qs:List Int}{A2:Option Addr}{b2 o2 c2:Nat}{rs:List Int}{w2:World}{p l0 c0:Nat}{ng:Bool}{A0:Option Addr}(D:DzR A bz oz cz Ar br or_ cr X Y w A1 b1 o1 c1 qs A2 b2 o2 c2 rs w2)(h:IntB w p ng A0 l0 c0)(h1:p≠bz)(h2:p≠br):IntB w2 p ng A0 l0 c0:=
 h.fc D.fc (fun i hh=>hh.elim (fun hh=>h1 hh.1) (fun hh=>h2 hh.1))
theorem qr_mid{X Y:Int}{m n l0 c0 l1 c1':Nat}{A1:Option Addr}{b1 o1 c1:Nat}{qs:List Int}{A2:Option Addr}{b2 o2 c2:Nat}{rs:List Int}{w2 wx:World}{A0 A0':Option Addr}(D:DzR A bz oz cz Ar br or_ cr X Y w A1 b1 o1 c1 qs A2 b2 o2 c2 rs w2)(hz:IntB w2 pz nz A0 l0 c0)(hr:IntB w2 pr nr A0' l1 c1')(hx:IntB w2 px false Ax m cx)(hy:IntB w2 py false Ay n cy)(d1:pz≠pr)(d2:pz≠px)(d3:pz≠py)(d4:pr≠px)(d5:pr≠py)
 (hw:wx=(w2.setCell ⟨pz,1,none⟩ (.slice A1 qs.length c1)).setCell ⟨pr,1,none⟩ (.slice A2 rs.length c2)\/wx=(w2.setCell ⟨pr,1,none⟩ (.slice A2 rs.length c2)).setCell ⟨pz,1,none⟩ (.slice A1 qs.length c1)):
 QrM pz pr px py nz nr A bz oz cz Ar br or_ cr Ax m cx Ay n cy X Y w A1 b1 o1 c1 qs A2 b2 o2 c2 rs w2 wx:=by
 rcases hw with rfl|rfl
 ·have z1:=hz.set1 A1 qs.length c1
  have r1:=hr.far (i:=1) d1 (.slice A1 qs.length c1);exact⟨D,z1.far d1.symm _,r1.set1 A2 rs.length c2,(hx.far d2 _).far d4 _,(hy.far d3 _).far d5 _,((hz.fc_set (a:=⟨pz,1,none⟩) rfl _).mono (fun b i hh _=> .inl hh)).t ((r1.fc_set (a:=⟨pr,1,none⟩) rfl _).mono (fun b i hh _=> .inr hh))⟩
 ·have r1:=hr.set1 A2 rs.length c2
  have z1:=hz.far (i:=1) d1.symm (.slice A2 rs.length c2);exact⟨D,z1.set1 A1 qs.length c1,r1.far d1 _,(hx.far d4 _).far d2 _,(hy.far d5 _).far d3 _,((hr.fc_set (a:=⟨pr,1,none⟩) rfl _).mono (fun b i hh _=> .inr hh)).t ((z1.fc_set (a:=⟨pz,1,none⟩) rfl _).mono (fun b i hh _=> .inl hh))⟩
theorem qr_fin{X Y:Int}{m n:Nat}{A1:Option Addr}{b1 o1 c1:Nat}{qs:List Int}{A2:Option Addr}{b2 o2 c2:Nat}{rs:List Int}{w1 w2 wx wy:World}(f:Fr [] w w1)(M:QrM pz pr px py nz nr A bz oz cz Ar br or_ cr Ax m cx Ay n cy X Y w1 A1 b1 o1 c1 qs A2 b2 o2 c2 rs w2 wx)(d1:pz≠pr)
 (hw:(∃k,wy=((wx.drewN k).setCell ⟨pz,0,none⟩ (.bool false)).setCell ⟨pr,0,none⟩ (.bool false))\/ ∃k,wy=((wx.drewN k).setCell ⟨pr,0,none⟩ (.bool false)).setCell ⟨pz,0,none⟩ (.bool false)):
 QrP pz pr A bz oz cz Ar br or_ cr X Y w (.returned (.tuple #[.pointer (some ⟨pz,0,none⟩),.pointer (some ⟨pr,0,none⟩)])) wy:=by
 have hs:=f.size
 have key:IntB wy pz false A1 qs.length c1/\IntB wy pr false A2 rs.length c2/\Fc 51 (fun b _=>b=pz\/b=pr) wx wy:=by
  rcases hw with⟨k,rfl⟩|⟨k,rfl⟩
  ·have z0:IntB (wx.drewN k) pz nz A1 qs.length c1:=M.z
   have r0:IntB (wx.drewN k) pr nr A2 rs.length c2:=M.r;have z1:=z0.set0 false;have r1:=r0.far (i:=0) d1 (.bool false);exact⟨z1.far d1.symm _,r1.set0 false,((Fc.fr0 ((Fr.refl _ _).drewN k) _ _).t ((z0.fc_set (a:=⟨pz,0,none⟩) rfl _).mono (fun b i hh _=> .inl hh))).t ((r1.fc_set (a:=⟨pr,0,none⟩) rfl _).mono (fun b i hh _=> .inr hh))⟩
  ·have z0:IntB (wx.drewN k) pz nz A1 qs.length c1:=M.z
   have r0:IntB (wx.drewN k) pr nr A2 rs.length c2:=M.r;have r1:=r0.set0 false;have z1:=z0.far (i:=0) d1.symm (.bool false);exact⟨z1.set0 false,r1.far d1 _,((Fc.fr0 ((Fr.refl _ _).drewN k) _ _).t ((r0.fc_set (a:=⟨pr,0,none⟩) rfl _).mono (fun b i hh _=> .inr hh))).t ((z1.fc_set (a:=⟨pz,0,none⟩) rfl _).mono (fun b i hh _=> .inl hh))⟩
 obtain⟨k1,k2,k3⟩:=key;have D:=M.d;have hf:Fc 51 (fun b _=>b=pz\/b=pr) w2 wy:=M.f.t k3
 have off: ∀{A':Option Addr} {b o c:Nat} {us:List Int},Nm w2 A' b o c us->Nm wy A' b o c us:=fun h=>h.fc hf (fun i a1 a2 hh=>by
  have hc:=h.le;obtain⟨L,hL,_⟩:=h.rcv.row (by omega);obtain⟨L',hL',_⟩:=M.f.row _ L hL;rcases hh with hh|hh
  ·exact M.z.row_ne hL' hh
  ·exact M.r.row_ne hL' hh)
 refine⟨A1,b1,o1,c1,qs,A2,b2,o2,c2,rs,rfl,k1,k2,off D.qn,D.qd,D.qz,D.qv,D.qp.imp id (fun a=>⟨by omega,a.2⟩),off D.rn,D.rd,D.rz,D.rv,D.rp.imp id (fun a=>⟨by omega,a.2⟩),D.bn,((Fc.fr0 f _ _).t (D.fc.mono (fun b i hh _=> .inr (.inr hh)))).t (hf.mono (fun b i hh _=>hh.imp id .inl))⟩
theorem quoRem_any(P:DzPre A l bz oz cz Ar lr br or_ cr Ax bx ox cx xs Ay by_ oy cy ys w)(hz:IntB w pz nz A l cz)(hr:IntB w pr nr Ar lr cr)(hX:IntB w px false Ax xs.length cx)(hY:IntB w py false Ay ys.length cy)
 (d1:pz≠pr)(d2:pz≠px)(d3:pz≠py)(d4:pr≠px)(d5:pr≠py)(e1:pz≠bz)(e2:pz≠br)(e3:pr≠bz)(e4:pr≠br)(e5:px≠bz)(e6:px≠br)(e7:py≠bz)(e8:py≠br):
 Calls Tryz.prog 89 #[.pointer (some ⟨pz,0,none⟩),.pointer (some ⟨px,0,none⟩),.pointer (some ⟨py,0,none⟩),.pointer (some ⟨pr,0,none⟩)] w (QrP pz pr A bz oz cz Ar br or_ cr (val 18446744073709551616 xs) (val 18446744073709551616 ys) w):=by
 have CD:=dz_any (w:=w.drew) ⟨P.thr.fr0 (Fr.refl _ _).drew,P.td.fr0 (Fr.refl _ _).drew,P.z.fc (Fc.fr0 (Fr.refl _ _).drew 51 (fun _ _=>False)),P.zl,P.cz9,P.y.fc (Fc.fr0 (Fr.refl _ _).drew 51 (fun _ _=>False)),P.yl,P.cy9,P.u.drew,P.ud,P.uz,P.u9,P.cu9,P.v.drew,P.vd,P.vz,P.v1,P.v9,P.cv9,P.dyz,P.dyu,P.dyv,P.dzu⟩;obtain⟨m,hm⟩: ∃m,m=xs.length:=⟨_,rfl⟩;obtain⟨n,hn⟩: ∃n,n=ys.length:=⟨_,rfl⟩;have z1:=hz.cell1;have r1:=hr.cell1;have x1:=hX.cell1;have y1:=hY.cell1;rw[<-hm]at CD x1 hX;rw[<-hn]at CD y1 hY;have HCD:=κ CD;have HZ:=κ hz;have HR:=κ hr;have HX:=κ hX;have HY:=κ hY;have E:=κ (And.intro e1 (And.intro e2 (And.intro e3 (And.intro e4 (And.intro e5 (And.intro e6 (And.intro e7 e8)))))));have DD:=κ (And.intro d1 (And.intro d2 (And.intro d3 (And.intro d4 d5))));have k1: ¬pz=pr:=d1;have k2: ¬pr=pz:=fun e=>d1 e.symm
 have k3: ¬pz=px:=d2;have k4: ¬px=pz:=fun e=>d2 e.symm
 have k5: ¬pz=py:=d3;have k6: ¬py=pz:=fun e=>d3 e.symm
 have k7: ¬pr=px:=d4;have k8: ¬px=pr:=fun e=>d4 e.symm
 have k9: ¬pr=py:=d5;have k10: ¬py=pr:=fun e=>d5 e.symm
 have cz9:=P.cz9;have cy9:=P.cy9;have cu9:=P.cu9;have cv9:=P.cv9;have hzl:=P.zl;have hyl:=P.yl;have hul:=P.u.le;have hvl:=P.v.le;have hu9:=P.u9;have hv9:=P.v9;rw[<-hm]at hul hu9;rw[<-hn]at hvl hv9;clear P hz hr hX hY CD hm hn d1 d2 d3 d4 d5 e1 e2 e3 e4 e5 e6 e7 e8;go_enter Tryz.func89,Tryz.ntmps89;go_upto_region 1 with fail;go_cut [29]from 10 to 35 (fun v29 wx=> ∃A1 b1 o1 c1 qs A2 b2 o2 c2 rs w2,QrM pz pr px py nz nr A bz oz cz Ar br or_ cr Ax m cx Ay n cy (val 18446744073709551616 xs) (val 18446744073709551616 ys) w.drew A1 b1 o1 c1 qs A2 b2 o2 c2 rs w2 wx)
 case first=>
  go_region_with (go_at_call 32;refine(HCD.out).mono ?_;rintro e w2 ⟨A1,b1,o1,c1,qs,A2,b2,o2,c2,rs,rfl,hD⟩;have HD:=κ hD;have HI:=κ (dz_keep hD HZ.out.drew E.out.1 E.out.2.1);have HJ:=κ (dz_keep hD HR.out.drew E.out.2.2.1 E.out.2.2.2.1);have HK:=κ (dz_keep hD HX.out.drew E.out.2.2.2.2.1 E.out.2.2.2.2.2.1);have HL:=κ (dz_keep hD HY.out.drew E.out.2.2.2.2.2.2.1 E.out.2.2.2.2.2.2.2);have zz1:=HI.out.cell1;have rr1:=HJ.out.cell1;have fz1:=HI.out.frozen 1;have fr1:=HJ.out.frozen 1;have kx1:=HK.out.cell1;have ky1:=HL.out.cell1;clear hD);all_goals (go_wp2_with fail)
  all_goals go_meet
  all_goals first
   |exact⟨A1,b1,o1,c1,qs,A2,b2,o2,c2,rs,w2,qr_mid HD.out HI.out HJ.out HK.out HL.out DD.out.1 DD.out.2.1 DD.out.2.2.1 DD.out.2.2.2.1 DD.out.2.2.2.2 (.inl rfl)⟩
   |exact⟨A1,b1,o1,c1,qs,A2,b2,o2,c2,rs,w2,qr_mid HD.out HI.out HJ.out HK.out HL.out DD.out.1 DD.out.2.1 DD.out.2.2.1 DD.out.2.2.2.1 DD.out.2.2.2.2 (.inr rfl)⟩
 case rest=>
  obtain⟨A1,b1,o1,c1,qs,A2,b2,o2,c2,rs,w2,hM⟩:=hcut;obtain⟨w3,hw3⟩: ∃wq,wq=wc:=⟨_,rfl⟩;subst hw3;have HM:=κ hM;have z1':=hM.z.cell1;have r1':=hM.r.cell1;have z0':=hM.z.cell0;have r0':=hM.r.cell0;have x0':=hM.x.cell0;have y0':=hM.y.cell0;have fz0:=hM.z.frozen 0;have fr0:=hM.r.frozen 0;obtain⟨n1,hn1⟩: ∃n1,n1=qs.length:=⟨_,rfl⟩;obtain⟨n2,hn2⟩: ∃n2,n2=rs.length:=⟨_,rfl⟩;rw[<-hn1]at z1';rw[<-hn2]at r1';have B1:(w3.setCell ⟨pz,0,none⟩ (.bool false)).cell? ⟨pz,1,none⟩=some (.slice A1 n1 c1):=by rw[hn1];exact(hM.z.set0 false).cell1
  have B2:(w3.setCell ⟨pr,0,none⟩ (.bool false)).cell? ⟨pr,1,none⟩=some (.slice A2 n2 c2):=by rw[hn2];exact(hM.r.set0 false).cell1
  have B3:(w3.setCell ⟨pr,0,none⟩ (.bool false)).cell? ⟨pz,1,none⟩=some (.slice A1 n1 c1):=by rw[hn1];exact(hM.z.far (i:=0) DD.out.1.symm (.bool false)).cell1
  have B4:(w3.setCell ⟨pz,0,none⟩ (.bool false)).cell? ⟨pr,1,none⟩=some (.slice A2 n2 c2):=by rw[hn2];exact(hM.r.far (i:=0) DD.out.1 (.bool false)).cell1
  have B5:(w3.setCell ⟨pr,0,none⟩ (.bool false)).cell? ⟨px,0,none⟩=some (.bool false):=(hM.x.far (i:=0) DD.out.2.2.2.1 (.bool false)).cell0;have B6:(w3.setCell ⟨pz,0,none⟩ (.bool false)).cell? ⟨px,0,none⟩=some (.bool false):=(hM.x.far (i:=0) DD.out.2.1 (.bool false)).cell0;have B7:(w3.setCell ⟨pr,0,none⟩ (.bool false)).cell? ⟨py,0,none⟩=some (.bool false):=(hM.y.far (i:=0) DD.out.2.2.2.2 (.bool false)).cell0;have B8:(w3.setCell ⟨pz,0,none⟩ (.bool false)).cell? ⟨py,0,none⟩=some (.bool false):=(hM.y.far (i:=0) DD.out.2.2.1 (.bool false)).cell0;have C1:((w3.setCell ⟨pz,0,none⟩ (.bool false)).setCell ⟨pr,0,none⟩ (.bool false)).cell? ⟨pz,1,none⟩=some (.slice A1 n1 c1):=by rw[hn1];exact((hM.z.set0 false).far (i:=0) DD.out.1.symm (.bool false)).cell1
  have C2:((w3.setCell ⟨pz,0,none⟩ (.bool false)).setCell ⟨pr,0,none⟩ (.bool false)).cell? ⟨pr,1,none⟩=some (.slice A2 n2 c2):=by rw[hn2];exact((hM.r.far (i:=0) DD.out.1 (.bool false)).set0 false).cell1
  have C3:((w3.setCell ⟨pz,0,none⟩ (.bool false)).setCell ⟨pr,0,none⟩ (.bool false)).cell? ⟨px,0,none⟩=some (.bool false):=((hM.x.far (i:=0) DD.out.2.1 (.bool false)).far (i:=0) DD.out.2.2.2.1 (.bool false)).cell0;have C4:((w3.setCell ⟨pz,0,none⟩ (.bool false)).setCell ⟨pr,0,none⟩ (.bool false)).cell? ⟨py,0,none⟩=some (.bool false):=((hM.y.far (i:=0) DD.out.2.2.1 (.bool false)).far (i:=0) DD.out.2.2.2.2 (.bool false)).cell0;clear hM hn1 hn2 z1 r1 x1 y1 HCD HZ HR HX HY;go_upto_region 2 with fail;rcases Nat.eq_zero_or_pos n1 with rfl|hp1<;>rcases Nat.eq_zero_or_pos n2 with rfl|hp2
  ·have hd1:decide ((0:Int)<((0:Nat):Int))=false:=rfl
   have hd2:decide ((0:Int)<((0:Nat):Int))=false:=rfl;have hd3:decide (0<0)=false:=rfl;have hd4:decide (0<0)=false:=rfl;refine wp_region_held_drew (S:=(fun w'=>w'.cell? ⟨pz,1,none⟩=some (.slice A1 0 c1)/\w'.cell? ⟨pr,1,none⟩=some (.slice A2 0 c2)/\w'.cell? ⟨px,0,none⟩=some (.bool false)/\w'.cell? ⟨py,0,none⟩=some (.bool false))) (by kernel_rfl) ⟨by assumption,by assumption,by assumption,by assumption⟩ (fun hHeld=> ?_);refine wpAnyH_take (i:=0) (v:= ?_) rfl (by kernel_rfl) (by kernel_rfl) (by kernel_rfl) (fun _ _ _ h=>h) (Or.inl ⟨by rfl,?_⟩) (by assumption) ?_;rotate_left 1
   ·(intro w hSw;(try dsimp only at hSw);go_simp<;>with_reducible rfl)
   try simp only[Act.put,List.setIfInBounds_toArray,List.set_cons_zero,List.set_cons_succ]
   refine wpAnyH_take (i:=1) (v:= ?_) rfl (by kernel_rfl) (by kernel_rfl) (by kernel_rfl) (fun _ _ _ h=>h) (Or.inl ⟨by rfl,?_⟩) (by assumption) ?_;rotate_left 1
   ·(intro w hSw;(try dsimp only at hSw);go_simp<;>with_reducible rfl)
   try simp only[Act.put,List.setIfInBounds_toArray,List.set_cons_zero,List.set_cons_succ]
   refine wpAnyH_take (i:=2) (v:= ?_) rfl (by kernel_rfl) (by kernel_rfl) (by kernel_rfl) (fun _ _ _ h=>h) (Or.inl ⟨by rfl,?_⟩) (by assumption) ?_;rotate_left 1
   ·(intro w hSw;(try dsimp only at hSw);go_simp<;>with_reducible rfl)
   try simp only[Act.put,List.setIfInBounds_toArray,List.set_cons_zero,List.set_cons_succ]
   refine wpAnyH_take (i:=3) (v:= ?_) rfl (by kernel_rfl) (by kernel_rfl) (by kernel_rfl) (fun _ _ _ h=>h) (Or.inl ⟨by rfl,?_⟩) (by assumption) ?_;rotate_left 1
   ·(intro w hSw;(try dsimp only at hSw);go_simp<;>with_reducible rfl)
   try simp only[Act.put,List.setIfInBounds_toArray,List.set_cons_zero,List.set_cons_succ]
   refine wpAnyH_take (i:=4) (v:= ?_) rfl (by kernel_rfl) (by kernel_rfl) (by kernel_rfl) (fun _ _ _ h=>h) (Or.inl ⟨by rfl,?_⟩) (by assumption) ?_;rotate_left 1
   ·(intro w hSw;(try dsimp only at hSw);go_simp<;>with_reducible rfl)
   try simp only[Act.put,List.setIfInBounds_toArray,List.set_cons_zero,List.set_cons_succ]
   refine wpAnyH_take (i:=5) (v:= ?_) rfl (by kernel_rfl) (by kernel_rfl) (by kernel_rfl) (fun _ _ _ h=>h) (Or.inl ⟨by rfl,?_⟩) (by assumption) ?_;rotate_left 1
   ·(intro w hSw;(try dsimp only at hSw);go_simp<;>with_reducible rfl)
   try simp only[Act.put,List.setIfInBounds_toArray,List.set_cons_zero,List.set_cons_succ]
   refine wpAnyH_take (i:=6) (v:= ?_) rfl (by kernel_rfl) (by kernel_rfl) (by kernel_rfl) (fun _ _ _ h=>h) (Or.inl ⟨by rfl,?_⟩) (by assumption) ?_;rotate_left 1
   ·(intro w hSw;(try dsimp only at hSw);go_simp<;>with_reducible rfl)
   try simp only[Act.put,List.setIfInBounds_toArray,List.set_cons_zero,List.set_cons_succ]
   refine wpAnyH_take (i:=7) (v:= ?_) rfl (by kernel_rfl) (by kernel_rfl) (by kernel_rfl) (fun _ _ _ h=>h) (Or.inl ⟨by rfl,?_⟩) (by assumption) ?_;rotate_left 1
   ·(intro w hSw;(try dsimp only at hSw);go_simp<;>with_reducible rfl)
   try simp only[Act.put,List.setIfInBounds_toArray,List.set_cons_zero,List.set_cons_succ]
   refine wpAnyH_take (i:=8) (v:= ?_) rfl (by kernel_rfl) (by kernel_rfl) (by kernel_rfl) (fun _ _ _ h=>h) (Or.inl ⟨by rfl,?_⟩) (by assumption) ?_;rotate_left 1
   ·(intro w hSw;(try dsimp only at hSw);go_simp<;>with_reducible rfl)
   try simp only[Act.put,List.setIfInBounds_toArray,List.set_cons_zero,List.set_cons_succ]
   refine wpAnyH_take (i:=9) (v:=undef) rfl (by kernel_rfl) (by kernel_rfl) (by kernel_rfl) (fun _ _ _ h=>h) (Or.inr ⟨?_,rfl⟩) (by assumption) ?_
   ·(simp[Region.wanted,yielded];done)
   try simp only[Act.put,List.setIfInBounds_toArray,List.set_cons_zero,List.set_cons_succ]
   refine wpAnyH_take (i:=10) (v:=undef) rfl (by kernel_rfl) (by kernel_rfl) (by kernel_rfl) (fun _ _ _ h=>h) (Or.inr ⟨?_,rfl⟩) (by assumption) ?_
   ·(simp[Region.wanted,yielded];done)
   try simp only[Act.put,List.setIfInBounds_toArray,List.set_cons_zero,List.set_cons_succ]
   refine wpAnyH_take (i:=11) (v:=undef) rfl (by kernel_rfl) (by kernel_rfl) (by kernel_rfl) (fun _ _ _ h=>h) (Or.inr ⟨?_,rfl⟩) (by assumption) ?_
   ·(simp[Region.wanted,yielded];done)
   try simp only[Act.put,List.setIfInBounds_toArray,List.set_cons_zero,List.set_cons_succ]
   refine wpAnyH_take (i:=12) (v:=undef) rfl (by kernel_rfl) (by kernel_rfl) (by kernel_rfl) (fun _ _ _ h=>h) (Or.inr ⟨?_,rfl⟩) (by assumption) ?_
   ·(simp[Region.wanted,yielded];done)
   try simp only[Act.put,List.setIfInBounds_toArray,List.set_cons_zero,List.set_cons_succ]
   refine wpAnyH_take (i:=13) (v:=undef) rfl (by kernel_rfl) (by kernel_rfl) (by kernel_rfl) (fun _ _ _ h=>h) (Or.inr ⟨?_,rfl⟩) (by assumption) ?_
   ·(simp[Region.wanted,yielded];done)
   try simp only[Act.put,List.setIfInBounds_toArray,List.set_cons_zero,List.set_cons_succ]
   refine wpAnyH_take (i:=14) (v:=undef) rfl (by kernel_rfl) (by kernel_rfl) (by kernel_rfl) (fun _ _ _ h=>h) (Or.inr ⟨?_,rfl⟩) (by assumption) ?_
   ·(simp[Region.wanted,yielded];done)
   try simp only[Act.put,List.setIfInBounds_toArray,List.set_cons_zero,List.set_cons_succ]
   refine wpAnyH_take (i:=15) (v:=undef) rfl (by kernel_rfl) (by kernel_rfl) (by kernel_rfl) (fun _ _ _ h=>h) (Or.inr ⟨?_,rfl⟩) (by assumption) ?_
   ·(simp[Region.wanted,yielded];done)
   try simp only[Act.put,List.setIfInBounds_toArray,List.set_cons_zero,List.set_cons_succ]
   refine wpAnyH_take (i:=16) (v:=undef) rfl (by kernel_rfl) (by kernel_rfl) (by kernel_rfl) (fun _ _ _ h=>h) (Or.inr ⟨?_,rfl⟩) (by assumption) ?_
   ·(simp[Region.wanted,yielded];done)
   try simp only[Act.put,List.setIfInBounds_toArray,List.set_cons_zero,List.set_cons_succ]
   refine wpAnyH_take (i:=17) (v:=undef) rfl (by kernel_rfl) (by kernel_rfl) (by kernel_rfl) (fun _ _ _ h=>h) (Or.inr ⟨?_,rfl⟩) (by assumption) ?_
   ·(simp[Region.wanted,yielded];done)
   try simp only[Act.put,List.setIfInBounds_toArray,List.set_cons_zero,List.set_cons_succ]
   refine wpAnyH_take (i:=18) (v:= ?_) rfl (by kernel_rfl) (by kernel_rfl) (by kernel_rfl) (fun _ _ _ h=>h) (Or.inl ⟨by rfl,?_⟩) (by assumption) ?_;rotate_left 1
   ·(intro w hSw;(try dsimp only at hSw);go_simp<;>with_reducible rfl)
   try simp only[Act.put,List.setIfInBounds_toArray,List.set_cons_zero,List.set_cons_succ]
   refine wpAnyH_take (i:=19) (v:= ?_) rfl (by kernel_rfl) (by kernel_rfl) (by kernel_rfl) (fun _ _ _ h=>h) (Or.inl ⟨by rfl,?_⟩) (by assumption) ?_;rotate_left 1
   ·(intro w hSw;(try dsimp only at hSw);go_simp<;>with_reducible rfl)
   try simp only[Act.put,List.setIfInBounds_toArray,List.set_cons_zero,List.set_cons_succ]
   refine wpAnyH_take (i:=20) (v:= ?_) rfl (by kernel_rfl) (by kernel_rfl) (by kernel_rfl) (fun _ _ _ h=>h) (Or.inl ⟨by rfl,?_⟩) (by assumption) ?_;rotate_left 1
   ·(intro w hSw;(try dsimp only at hSw);go_simp<;>with_reducible rfl)
   try simp only[Act.put,List.setIfInBounds_toArray,List.set_cons_zero,List.set_cons_succ]
   refine wpAnyH_take (i:=21) (v:= ?_) rfl (by kernel_rfl) (by kernel_rfl) (by kernel_rfl) (fun _ _ _ h=>h) (Or.inl ⟨by rfl,?_⟩) (by assumption) ?_;rotate_left 1
   ·(intro w hSw;(try dsimp only at hSw);go_simp<;>with_reducible rfl)
   try simp only[Act.put,List.setIfInBounds_toArray,List.set_cons_zero,List.set_cons_succ]
   refine wpAnyH_take (i:=22) (v:= ?_) rfl (by kernel_rfl) (by kernel_rfl) (by kernel_rfl) (fun _ _ _ h=>h) (Or.inl ⟨by rfl,?_⟩) (by assumption) ?_;rotate_left 1
   ·(intro w hSw;(try dsimp only at hSw);go_simp<;>with_reducible rfl)
   try simp only[Act.put,List.setIfInBounds_toArray,List.set_cons_zero,List.set_cons_succ]
   refine wpAnyH_take (i:=23) (v:= ?_) rfl (by kernel_rfl) (by kernel_rfl) (by kernel_rfl) (fun _ _ _ h=>h) (Or.inl ⟨by rfl,?_⟩) (by assumption) ?_;rotate_left 1
   ·(intro w hSw;(try dsimp only at hSw);go_simp<;>with_reducible rfl)
   try simp only[Act.put,List.setIfInBounds_toArray,List.set_cons_zero,List.set_cons_succ]
   refine wpAnyH_take (i:=24) (v:= ?_) rfl (by kernel_rfl) (by kernel_rfl) (by kernel_rfl) (fun _ _ _ h=>h) (Or.inl ⟨by rfl,?_⟩) (by assumption) ?_;rotate_left 1
   ·(intro w hSw;(try dsimp only at hSw);go_simp<;>with_reducible rfl)
   try simp only[Act.put,List.setIfInBounds_toArray,List.set_cons_zero,List.set_cons_succ]
   refine wpAnyH_take (i:=25) (v:= ?_) rfl (by kernel_rfl) (by kernel_rfl) (by kernel_rfl) (fun _ _ _ h=>h) (Or.inl ⟨by rfl,?_⟩) (by assumption) ?_;rotate_left 1
   ·(intro w hSw;(try dsimp only at hSw);go_simp<;>with_reducible rfl)
   try simp only[Act.put,List.setIfInBounds_toArray,List.set_cons_zero,List.set_cons_succ]
   refine wpAnyH_take (i:=26) (v:=undef) rfl (by kernel_rfl) (by kernel_rfl) (by kernel_rfl) (fun _ _ _ h=>h) (Or.inr ⟨?_,rfl⟩) (by assumption) ?_
   ·(simp[Region.wanted,yielded];done)
   try simp only[Act.put,List.setIfInBounds_toArray,List.set_cons_zero,List.set_cons_succ]
   refine wpAnyH_take (i:=27) (v:=undef) rfl (by kernel_rfl) (by kernel_rfl) (by kernel_rfl) (fun _ _ _ h=>h) (Or.inr ⟨?_,rfl⟩) (by assumption) ?_
   ·(simp[Region.wanted,yielded];done)
   try simp only[Act.put,List.setIfInBounds_toArray,List.set_cons_zero,List.set_cons_succ]
   refine wpAnyH_take (i:=28) (v:=undef) rfl (by kernel_rfl) (by kernel_rfl) (by kernel_rfl) (fun _ _ _ h=>h) (Or.inr ⟨?_,rfl⟩) (by assumption) ?_
   ·(simp[Region.wanted,yielded];done)
   try simp only[Act.put,List.setIfInBounds_toArray,List.set_cons_zero,List.set_cons_succ]
   refine wpAnyH_take (i:=29) (v:=undef) rfl (by kernel_rfl) (by kernel_rfl) (by kernel_rfl) (fun _ _ _ h=>h) (Or.inr ⟨?_,rfl⟩) (by assumption) ?_
   ·(simp[Region.wanted,yielded];done)
   try simp only[Act.put,List.setIfInBounds_toArray,List.set_cons_zero,List.set_cons_succ]
   refine wpAnyH_take (i:=30) (v:= ?_) rfl (by kernel_rfl) (by kernel_rfl) (by kernel_rfl) (fun _ _ _ h=>h) (Or.inl ⟨by rfl,?_⟩) (by assumption) ?_;rotate_left 1
   ·(intro w hSw;(try dsimp only at hSw);go_simp<;>with_reducible rfl)
   try simp only[Act.put,List.setIfInBounds_toArray,List.set_cons_zero,List.set_cons_succ]
   refine wpAnyH_take (i:=31) (v:= ?_) rfl (by kernel_rfl) (by kernel_rfl) (by kernel_rfl) (fun _ _ _ h=>h) (Or.inl ⟨by rfl,?_⟩) (by assumption) ?_;rotate_left 1
   ·(intro w hSw;(try dsimp only at hSw);go_simp<;>with_reducible rfl)
   try simp only[Act.put,List.setIfInBounds_toArray,List.set_cons_zero,List.set_cons_succ]
   refine wpAnyH_take (i:=32) (v:= ?_) rfl (by kernel_rfl) (by kernel_rfl) (by kernel_rfl) (fun _ _ _ h=>h) (Or.inl ⟨by rfl,?_⟩) (by assumption) ?_;rotate_left 1
   ·(intro w hSw;(try dsimp only at hSw);go_simp<;>with_reducible rfl)
   try simp only[Act.put,List.setIfInBounds_toArray,List.set_cons_zero,List.set_cons_succ]
   refine wpAnyH_ready (rs:=[33]) (by kernel_rfl) (by simp) ?_;refine AllReadyH.cons rfl (fun K hK=> ?_) AllReadyH.nil;go_simp;refine hK.out _ _ ⟨B1,B4,B6,B8⟩ (fun hHeld=> ?_);clear hK K;try simp only[Act.put,List.setIfInBounds_toArray,List.set_cons_zero,List.set_cons_succ]
   refine wpAnyH_take (i:=34) (v:= ?_) rfl (by kernel_rfl) (by kernel_rfl) (by kernel_rfl) (fun _ _ _ h=>h) (Or.inl ⟨by rfl,?_⟩) (by assumption) ?_;rotate_left 1
   ·(intro w hSw;(try dsimp only at hSw);go_simp<;>with_reducible rfl)
   try simp only[Act.put,List.setIfInBounds_toArray,List.set_cons_zero,List.set_cons_succ]
   refine wpAnyH_take (i:=35) (v:= ?_) rfl (by kernel_rfl) (by kernel_rfl) (by kernel_rfl) (fun _ _ _ h=>h) (Or.inl ⟨by rfl,?_⟩) (by assumption) ?_;rotate_left 1
   ·(intro w hSw;(try dsimp only at hSw);go_simp<;>with_reducible rfl)
   try simp only[Act.put,List.setIfInBounds_toArray,List.set_cons_zero,List.set_cons_succ]
   refine wpAnyH_ready (rs:=[36]) (by kernel_rfl) (by simp) ?_;refine AllReadyH.cons rfl (fun K hK=> ?_) AllReadyH.nil;go_simp;refine hK.out _ _ ⟨C1,C2,C3,C4⟩ (fun hHeld=> ?_);clear hK K;try simp only[Act.put,List.setIfInBounds_toArray,List.set_cons_zero,List.set_cons_succ]
   refine wpAnyH_done (by kernel_rfl) ?_ _;go_wp2_with fail;try go_ret2
   all_goals exact qr_fin (Fr.refl _ _).drew HM.out DD.out.1 (.inl ⟨1,rfl⟩)
  ·have hd1:decide ((0:Int)<((0:Nat):Int))=false:=rfl
   have hd2:decide ((0:Int)<((n2:Nat):Int))=true:=decide_eq_true (by omega);have hd3:decide (0<0)=false:=rfl;have hd4:decide (0<n2)=true:=decide_eq_true hp2;refine wp_region_held_drew (S:=(fun w'=>w'.cell? ⟨pz,1,none⟩=some (.slice A1 0 c1)/\w'.cell? ⟨pr,1,none⟩=some (.slice A2 n2 c2)/\w'.cell? ⟨px,0,none⟩=some (.bool false)/\w'.cell? ⟨py,0,none⟩=some (.bool false))) (by kernel_rfl) ⟨by assumption,by assumption,by assumption,by assumption⟩ (fun hHeld=> ?_);refine wpAnyH_take (i:=0) (v:= ?_) rfl (by kernel_rfl) (by kernel_rfl) (by kernel_rfl) (fun _ _ _ h=>h) (Or.inl ⟨by rfl,?_⟩) (by assumption) ?_;rotate_left 1
   ·(intro w hSw;(try dsimp only at hSw);go_simp<;>with_reducible rfl)
   try simp only[Act.put,List.setIfInBounds_toArray,List.set_cons_zero,List.set_cons_succ]
   refine wpAnyH_take (i:=1) (v:= ?_) rfl (by kernel_rfl) (by kernel_rfl) (by kernel_rfl) (fun _ _ _ h=>h) (Or.inl ⟨by rfl,?_⟩) (by assumption) ?_;rotate_left 1
   ·(intro w hSw;(try dsimp only at hSw);go_simp<;>with_reducible rfl)
   try simp only[Act.put,List.setIfInBounds_toArray,List.set_cons_zero,List.set_cons_succ]
   refine wpAnyH_take (i:=2) (v:= ?_) rfl (by kernel_rfl) (by kernel_rfl) (by kernel_rfl) (fun _ _ _ h=>h) (Or.inl ⟨by rfl,?_⟩) (by assumption) ?_;rotate_left 1
   ·(intro w hSw;(try dsimp only at hSw);go_simp<;>with_reducible rfl)
   try simp only[Act.put,List.setIfInBounds_toArray,List.set_cons_zero,List.set_cons_succ]
   refine wpAnyH_take (i:=3) (v:= ?_) rfl (by kernel_rfl) (by kernel_rfl) (by kernel_rfl) (fun _ _ _ h=>h) (Or.inl ⟨by rfl,?_⟩) (by assumption) ?_;rotate_left 1
   ·(intro w hSw;(try dsimp only at hSw);go_simp<;>with_reducible rfl)
   try simp only[Act.put,List.setIfInBounds_toArray,List.set_cons_zero,List.set_cons_succ]
   refine wpAnyH_take (i:=4) (v:= ?_) rfl (by kernel_rfl) (by kernel_rfl) (by kernel_rfl) (fun _ _ _ h=>h) (Or.inl ⟨by rfl,?_⟩) (by assumption) ?_;rotate_left 1
   ·(intro w hSw;(try dsimp only at hSw);go_simp<;>with_reducible rfl)
   try simp only[Act.put,List.setIfInBounds_toArray,List.set_cons_zero,List.set_cons_succ]
   refine wpAnyH_take (i:=5) (v:= ?_) rfl (by kernel_rfl) (by kernel_rfl) (by kernel_rfl) (fun _ _ _ h=>h) (Or.inl ⟨by rfl,?_⟩) (by assumption) ?_;rotate_left 1
   ·(intro w hSw;(try dsimp only at hSw);go_simp<;>with_reducible rfl)
   try simp only[Act.put,List.setIfInBounds_toArray,List.set_cons_zero,List.set_cons_succ]
   refine wpAnyH_take (i:=6) (v:= ?_) rfl (by kernel_rfl) (by kernel_rfl) (by kernel_rfl) (fun _ _ _ h=>h) (Or.inl ⟨by rfl,?_⟩) (by assumption) ?_;rotate_left 1
   ·(intro w hSw;(try dsimp only at hSw);go_simp<;>with_reducible rfl)
   try simp only[Act.put,List.setIfInBounds_toArray,List.set_cons_zero,List.set_cons_succ]
   refine wpAnyH_take (i:=7) (v:= ?_) rfl (by kernel_rfl) (by kernel_rfl) (by kernel_rfl) (fun _ _ _ h=>h) (Or.inl ⟨by rfl,?_⟩) (by assumption) ?_;rotate_left 1
   ·(intro w hSw;(try dsimp only at hSw);go_simp<;>with_reducible rfl)
   try simp only[Act.put,List.setIfInBounds_toArray,List.set_cons_zero,List.set_cons_succ]
   refine wpAnyH_take (i:=8) (v:= ?_) rfl (by kernel_rfl) (by kernel_rfl) (by kernel_rfl) (fun _ _ _ h=>h) (Or.inl ⟨by rfl,?_⟩) (by assumption) ?_;rotate_left 1
   ·(intro w hSw;(try dsimp only at hSw);go_simp<;>with_reducible rfl)
   try simp only[Act.put,List.setIfInBounds_toArray,List.set_cons_zero,List.set_cons_succ]
   refine wpAnyH_take (i:=9) (v:=undef) rfl (by kernel_rfl) (by kernel_rfl) (by kernel_rfl) (fun _ _ _ h=>h) (Or.inr ⟨?_,rfl⟩) (by assumption) ?_
   ·(simp[Region.wanted,yielded];done)
   try simp only[Act.put,List.setIfInBounds_toArray,List.set_cons_zero,List.set_cons_succ]
   refine wpAnyH_take (i:=10) (v:=undef) rfl (by kernel_rfl) (by kernel_rfl) (by kernel_rfl) (fun _ _ _ h=>h) (Or.inr ⟨?_,rfl⟩) (by assumption) ?_
   ·(simp[Region.wanted,yielded];done)
   try simp only[Act.put,List.setIfInBounds_toArray,List.set_cons_zero,List.set_cons_succ]
   refine wpAnyH_take (i:=11) (v:=undef) rfl (by kernel_rfl) (by kernel_rfl) (by kernel_rfl) (fun _ _ _ h=>h) (Or.inr ⟨?_,rfl⟩) (by assumption) ?_
   ·(simp[Region.wanted,yielded];done)
   try simp only[Act.put,List.setIfInBounds_toArray,List.set_cons_zero,List.set_cons_succ]
   refine wpAnyH_take (i:=12) (v:=undef) rfl (by kernel_rfl) (by kernel_rfl) (by kernel_rfl) (fun _ _ _ h=>h) (Or.inr ⟨?_,rfl⟩) (by assumption) ?_
   ·(simp[Region.wanted,yielded];done)
   try simp only[Act.put,List.setIfInBounds_toArray,List.set_cons_zero,List.set_cons_succ]
   refine wpAnyH_take (i:=13) (v:=undef) rfl (by kernel_rfl) (by kernel_rfl) (by kernel_rfl) (fun _ _ _ h=>h) (Or.inr ⟨?_,rfl⟩) (by assumption) ?_
   ·(simp[Region.wanted,yielded];done)
   try simp only[Act.put,List.setIfInBounds_toArray,List.set_cons_zero,List.set_cons_succ]
   refine wpAnyH_take (i:=14) (v:=undef) rfl (by kernel_rfl) (by kernel_rfl) (by kernel_rfl) (fun _ _ _ h=>h) (Or.inr ⟨?_,rfl⟩) (by assumption) ?_
   ·(simp[Region.wanted,yielded];done)
   try simp only[Act.put,List.setIfInBounds_toArray,List.set_cons_zero,List.set_cons_succ]
   refine wpAnyH_take (i:=15) (v:=undef) rfl (by kernel_rfl) (by kernel_rfl) (by kernel_rfl) (fun _ _ _ h=>h) (Or.inr ⟨?_,rfl⟩) (by assumption) ?_
   ·(simp[Region.wanted,yielded];done)
   try simp only[Act.put,List.setIfInBounds_toArray,List.set_cons_zero,List.set_cons_succ]
   refine wpAnyH_take (i:=16) (v:=undef) rfl (by kernel_rfl) (by kernel_rfl) (by kernel_rfl) (fun _ _ _ h=>h) (Or.inr ⟨?_,rfl⟩) (by assumption) ?_
   ·(simp[Region.wanted,yielded];done)
   try simp only[Act.put,List.setIfInBounds_toArray,List.set_cons_zero,List.set_cons_succ]
   refine wpAnyH_take (i:=17) (v:=undef) rfl (by kernel_rfl) (by kernel_rfl) (by kernel_rfl) (fun _ _ _ h=>h) (Or.inr ⟨?_,rfl⟩) (by assumption) ?_
   ·(simp[Region.wanted,yielded];done)
   try simp only[Act.put,List.setIfInBounds_toArray,List.set_cons_zero,List.set_cons_succ]
   refine wpAnyH_take (i:=18) (v:= ?_) rfl (by kernel_rfl) (by kernel_rfl) (by kernel_rfl) (fun _ _ _ h=>h) (Or.inl ⟨by rfl,?_⟩) (by assumption) ?_;rotate_left 1
   ·(intro w hSw;(try dsimp only at hSw);go_simp<;>with_reducible rfl)
   try simp only[Act.put,List.setIfInBounds_toArray,List.set_cons_zero,List.set_cons_succ]
   refine wpAnyH_take (i:=19) (v:= ?_) rfl (by kernel_rfl) (by kernel_rfl) (by kernel_rfl) (fun _ _ _ h=>h) (Or.inl ⟨by rfl,?_⟩) (by assumption) ?_;rotate_left 1
   ·(intro w hSw;(try dsimp only at hSw);go_simp<;>with_reducible rfl)
   try simp only[Act.put,List.setIfInBounds_toArray,List.set_cons_zero,List.set_cons_succ]
   refine wpAnyH_take (i:=20) (v:= ?_) rfl (by kernel_rfl) (by kernel_rfl) (by kernel_rfl) (fun _ _ _ h=>h) (Or.inl ⟨by rfl,?_⟩) (by assumption) ?_;rotate_left 1
   ·(intro w hSw;(try dsimp only at hSw);go_simp<;>with_reducible rfl)
   try simp only[Act.put,List.setIfInBounds_toArray,List.set_cons_zero,List.set_cons_succ]
   refine wpAnyH_take (i:=21) (v:= ?_) rfl (by kernel_rfl) (by kernel_rfl) (by kernel_rfl) (fun _ _ _ h=>h) (Or.inl ⟨by rfl,?_⟩) (by assumption) ?_;rotate_left 1
   ·(intro w hSw;(try dsimp only at hSw);go_simp<;>with_reducible rfl)
   try simp only[Act.put,List.setIfInBounds_toArray,List.set_cons_zero,List.set_cons_succ]
   refine wpAnyH_take (i:=22) (v:= ?_) rfl (by kernel_rfl) (by kernel_rfl) (by kernel_rfl) (fun _ _ _ h=>h) (Or.inl ⟨by rfl,?_⟩) (by assumption) ?_;rotate_left 1
   ·(intro w hSw;(try dsimp only at hSw);go_simp<;>with_reducible rfl)
   try simp only[Act.put,List.setIfInBounds_toArray,List.set_cons_zero,List.set_cons_succ]
   refine wpAnyH_take (i:=23) (v:= ?_) rfl (by kernel_rfl) (by kernel_rfl) (by kernel_rfl) (fun _ _ _ h=>h) (Or.inl ⟨by rfl,?_⟩) (by assumption) ?_;rotate_left 1
   ·(intro w hSw;(try dsimp only at hSw);go_simp<;>with_reducible rfl)
   try simp only[Act.put,List.setIfInBounds_toArray,List.set_cons_zero,List.set_cons_succ]
   refine wpAnyH_take (i:=24) (v:= ?_) rfl (by kernel_rfl) (by kernel_rfl) (by kernel_rfl) (fun _ _ _ h=>h) (Or.inl ⟨by rfl,?_⟩) (by assumption) ?_;rotate_left 1
   ·(intro w hSw;(try dsimp only at hSw);go_simp<;>with_reducible rfl)
   try simp only[Act.put,List.setIfInBounds_toArray,List.set_cons_zero,List.set_cons_succ]
   refine wpAnyH_take (i:=25) (v:= ?_) rfl (by kernel_rfl) (by kernel_rfl) (by kernel_rfl) (fun _ _ _ h=>h) (Or.inl ⟨by rfl,?_⟩) (by assumption) ?_;rotate_left 1
   ·(intro w hSw;(try dsimp only at hSw);go_simp<;>with_reducible rfl)
   try simp only[Act.put,List.setIfInBounds_toArray,List.set_cons_zero,List.set_cons_succ]
   refine wpAnyH_take (i:=26) (v:= ?_) rfl (by kernel_rfl) (by kernel_rfl) (by kernel_rfl) (fun _ _ _ h=>h) (Or.inl ⟨by kernel_rfl,?_⟩) (by assumption) ?_;rotate_left 1
   ·(intro w hSw;(try dsimp only at hSw);go_simp<;>with_reducible rfl)
   try simp only[Act.put,List.setIfInBounds_toArray,List.set_cons_zero,List.set_cons_succ]
   refine wpAnyH_take (i:=27) (v:= ?_) rfl (by kernel_rfl) (by kernel_rfl) (by kernel_rfl) (fun _ _ _ h=>h) (Or.inl ⟨by kernel_rfl,?_⟩) (by assumption) ?_;rotate_left 1
   ·(intro w hSw;(try dsimp only at hSw);go_simp<;>with_reducible rfl)
   try simp only[Act.put,List.setIfInBounds_toArray,List.set_cons_zero,List.set_cons_succ]
   refine wpAnyH_take (i:=28) (v:= ?_) rfl (by kernel_rfl) (by kernel_rfl) (by kernel_rfl) (fun _ _ _ h=>h) (Or.inl ⟨by kernel_rfl,?_⟩) (by assumption) ?_;rotate_left 1
   ·(intro w hSw;(try dsimp only at hSw);go_simp<;>with_reducible rfl)
   try simp only[Act.put,List.setIfInBounds_toArray,List.set_cons_zero,List.set_cons_succ]
   refine wpAnyH_take (i:=29) (v:= ?_) rfl (by kernel_rfl) (by kernel_rfl) (by kernel_rfl) (fun _ _ _ h=>h) (Or.inl ⟨by kernel_rfl,?_⟩) (by assumption) ?_;rotate_left 1
   ·(intro w hSw;(try dsimp only at hSw);go_simp<;>with_reducible rfl)
   try simp only[Act.put,List.setIfInBounds_toArray,List.set_cons_zero,List.set_cons_succ]
   refine wpAnyH_take (i:=30) (v:= ?_) rfl (by kernel_rfl) (by kernel_rfl) (by kernel_rfl) (fun _ _ _ h=>h) (Or.inl ⟨by rfl,?_⟩) (by assumption) ?_;rotate_left 1
   ·(intro w hSw;(try dsimp only at hSw);go_simp<;>with_reducible rfl)
   try simp only[Act.put,List.setIfInBounds_toArray,List.set_cons_zero,List.set_cons_succ]
   refine wpAnyH_take (i:=31) (v:= ?_) rfl (by kernel_rfl) (by kernel_rfl) (by kernel_rfl) (fun _ _ _ h=>h) (Or.inl ⟨by rfl,?_⟩) (by assumption) ?_;rotate_left 1
   ·(intro w hSw;(try dsimp only at hSw);go_simp<;>with_reducible rfl)
   try simp only[Act.put,List.setIfInBounds_toArray,List.set_cons_zero,List.set_cons_succ]
   refine wpAnyH_take (i:=32) (v:= ?_) rfl (by kernel_rfl) (by kernel_rfl) (by kernel_rfl) (fun _ _ _ h=>h) (Or.inl ⟨by rfl,?_⟩) (by assumption) ?_;rotate_left 1
   ·(intro w hSw;(try dsimp only at hSw);go_simp<;>with_reducible rfl)
   try simp only[Act.put,List.setIfInBounds_toArray,List.set_cons_zero,List.set_cons_succ]
   refine wpAnyH_ready (rs:=[33]) (by kernel_rfl) (by simp) ?_;refine AllReadyH.cons rfl (fun K hK=> ?_) AllReadyH.nil;go_simp;refine hK.out _ _ ⟨B1,B4,B6,B8⟩ (fun hHeld=> ?_);clear hK K;try simp only[Act.put,List.setIfInBounds_toArray,List.set_cons_zero,List.set_cons_succ]
   refine wpAnyH_take (i:=34) (v:= ?_) rfl (by kernel_rfl) (by kernel_rfl) (by kernel_rfl) (fun _ _ _ h=>h) (Or.inl ⟨by rfl,?_⟩) (by assumption) ?_;rotate_left 1
   ·(intro w hSw;(try dsimp only at hSw);go_simp<;>with_reducible rfl)
   try simp only[Act.put,List.setIfInBounds_toArray,List.set_cons_zero,List.set_cons_succ]
   refine wpAnyH_take (i:=35) (v:= ?_) rfl (by kernel_rfl) (by kernel_rfl) (by kernel_rfl) (fun _ _ _ h=>h) (Or.inl ⟨by rfl,?_⟩) (by assumption) ?_;rotate_left 1
   ·(intro w hSw;(try dsimp only at hSw);go_simp<;>with_reducible rfl)
   try simp only[Act.put,List.setIfInBounds_toArray,List.set_cons_zero,List.set_cons_succ]
   refine wpAnyH_ready (rs:=[36]) (by kernel_rfl) (by simp) ?_;refine AllReadyH.cons rfl (fun K hK=> ?_) AllReadyH.nil;go_simp;refine hK.out _ _ ⟨C1,C2,C3,C4⟩ (fun hHeld=> ?_);clear hK K;try simp only[Act.put,List.setIfInBounds_toArray,List.set_cons_zero,List.set_cons_succ]
   refine wpAnyH_done (by kernel_rfl) ?_ _;go_wp2_with fail;try go_ret2
   all_goals exact qr_fin (Fr.refl _ _).drew HM.out DD.out.1 (.inl ⟨1,rfl⟩)
  ·have hd1:decide ((0:Int)<((n1:Nat):Int))=true:=decide_eq_true (by omega)
   have hd2:decide ((0:Int)<((0:Nat):Int))=false:=rfl;have hd3:decide (0<n1)=true:=decide_eq_true hp1;have hd4:decide (0<0)=false:=rfl;refine wp_region_held_drew (S:=(fun w'=>w'.cell? ⟨pz,1,none⟩=some (.slice A1 n1 c1)/\w'.cell? ⟨pr,1,none⟩=some (.slice A2 0 c2)/\w'.cell? ⟨px,0,none⟩=some (.bool false)/\w'.cell? ⟨py,0,none⟩=some (.bool false))) (by kernel_rfl) ⟨by assumption,by assumption,by assumption,by assumption⟩ (fun hHeld=> ?_);refine wpAnyH_take (i:=0) (v:= ?_) rfl (by kernel_rfl) (by kernel_rfl) (by kernel_rfl) (fun _ _ _ h=>h) (Or.inl ⟨by rfl,?_⟩) (by assumption) ?_;rotate_left 1
   ·(intro w hSw;(try dsimp only at hSw);go_simp<;>with_reducible rfl)
   try simp only[Act.put,List.setIfInBounds_toArray,List.set_cons_zero,List.set_cons_succ]
   refine wpAnyH_take (i:=1) (v:= ?_) rfl (by kernel_rfl) (by kernel_rfl) (by kernel_rfl) (fun _ _ _ h=>h) (Or.inl ⟨by rfl,?_⟩) (by assumption) ?_;rotate_left 1
   ·(intro w hSw;(try dsimp only at hSw);go_simp<;>with_reducible rfl)
   try simp only[Act.put,List.setIfInBounds_toArray,List.set_cons_zero,List.set_cons_succ]
   refine wpAnyH_take (i:=2) (v:= ?_) rfl (by kernel_rfl) (by kernel_rfl) (by kernel_rfl) (fun _ _ _ h=>h) (Or.inl ⟨by rfl,?_⟩) (by assumption) ?_;rotate_left 1
   ·(intro w hSw;(try dsimp only at hSw);go_simp<;>with_reducible rfl)
   try simp only[Act.put,List.setIfInBounds_toArray,List.set_cons_zero,List.set_cons_succ]
   refine wpAnyH_take (i:=3) (v:= ?_) rfl (by kernel_rfl) (by kernel_rfl) (by kernel_rfl) (fun _ _ _ h=>h) (Or.inl ⟨by rfl,?_⟩) (by assumption) ?_;rotate_left 1
   ·(intro w hSw;(try dsimp only at hSw);go_simp<;>with_reducible rfl)
   try simp only[Act.put,List.setIfInBounds_toArray,List.set_cons_zero,List.set_cons_succ]
   refine wpAnyH_take (i:=4) (v:= ?_) rfl (by kernel_rfl) (by kernel_rfl) (by kernel_rfl) (fun _ _ _ h=>h) (Or.inl ⟨by rfl,?_⟩) (by assumption) ?_;rotate_left 1
   ·(intro w hSw;(try dsimp only at hSw);go_simp<;>with_reducible rfl)
   try simp only[Act.put,List.setIfInBounds_toArray,List.set_cons_zero,List.set_cons_succ]
   refine wpAnyH_take (i:=5) (v:= ?_) rfl (by kernel_rfl) (by kernel_rfl) (by kernel_rfl) (fun _ _ _ h=>h) (Or.inl ⟨by rfl,?_⟩) (by assumption) ?_;rotate_left 1
   ·(intro w hSw;(try dsimp only at hSw);go_simp<;>with_reducible rfl)
   try simp only[Act.put,List.setIfInBounds_toArray,List.set_cons_zero,List.set_cons_succ]
   refine wpAnyH_take (i:=6) (v:= ?_) rfl (by kernel_rfl) (by kernel_rfl) (by kernel_rfl) (fun _ _ _ h=>h) (Or.inl ⟨by rfl,?_⟩) (by assumption) ?_;rotate_left 1
   ·(intro w hSw;(try dsimp only at hSw);go_simp<;>with_reducible rfl)
   try simp only[Act.put,List.setIfInBounds_toArray,List.set_cons_zero,List.set_cons_succ]
   refine wpAnyH_take (i:=7) (v:= ?_) rfl (by kernel_rfl) (by kernel_rfl) (by kernel_rfl) (fun _ _ _ h=>h) (Or.inl ⟨by rfl,?_⟩) (by assumption) ?_;rotate_left 1
   ·(intro w hSw;(try dsimp only at hSw);go_simp<;>with_reducible rfl)
   try simp only[Act.put,List.setIfInBounds_toArray,List.set_cons_zero,List.set_cons_succ]
   refine wpAnyH_take (i:=8) (v:= ?_) rfl (by kernel_rfl) (by kernel_rfl) (by kernel_rfl) (fun _ _ _ h=>h) (Or.inl ⟨by rfl,?_⟩) (by assumption) ?_;rotate_left 1
   ·(intro w hSw;(try dsimp only at hSw);go_simp<;>with_reducible rfl)
   try simp only[Act.put,List.setIfInBounds_toArray,List.set_cons_zero,List.set_cons_succ]
   refine wpAnyH_take (i:=9) (v:= ?_) rfl (by kernel_rfl) (by kernel_rfl) (by kernel_rfl) (fun _ _ _ h=>h) (Or.inl ⟨by kernel_rfl,?_⟩) (by assumption) ?_;rotate_left 1
   ·(intro w hSw;(try dsimp only at hSw);go_simp<;>with_reducible rfl)
   try simp only[Act.put,List.setIfInBounds_toArray,List.set_cons_zero,List.set_cons_succ]
   refine wpAnyH_take (i:=10) (v:= ?_) rfl (by kernel_rfl) (by kernel_rfl) (by kernel_rfl) (fun _ _ _ h=>h) (Or.inl ⟨by kernel_rfl,?_⟩) (by assumption) ?_;rotate_left 1
   ·(intro w hSw;(try dsimp only at hSw);go_simp<;>with_reducible rfl)
   try simp only[Act.put,List.setIfInBounds_toArray,List.set_cons_zero,List.set_cons_succ]
   refine wpAnyH_take (i:=11) (v:= ?_) rfl (by kernel_rfl) (by kernel_rfl) (by kernel_rfl) (fun _ _ _ h=>h) (Or.inl ⟨by kernel_rfl,?_⟩) (by assumption) ?_;rotate_left 1
   ·(intro w hSw;(try dsimp only at hSw);go_simp<;>with_reducible rfl)
   try simp only[Act.put,List.setIfInBounds_toArray,List.set_cons_zero,List.set_cons_succ]
   refine wpAnyH_take (i:=12) (v:= ?_) rfl (by kernel_rfl) (by kernel_rfl) (by kernel_rfl) (fun _ _ _ h=>h) (Or.inl ⟨by kernel_rfl,?_⟩) (by assumption) ?_;rotate_left 1
   ·(intro w hSw;(try dsimp only at hSw);go_simp<;>with_reducible rfl)
   try simp only[Act.put,List.setIfInBounds_toArray,List.set_cons_zero,List.set_cons_succ]
   refine wpAnyH_take (i:=13) (v:= ?_) rfl (by kernel_rfl) (by kernel_rfl) (by kernel_rfl) (fun _ _ _ h=>h) (Or.inl ⟨by kernel_rfl,?_⟩) (by assumption) ?_;rotate_left 1
   ·(intro w hSw;(try dsimp only at hSw);go_simp<;>with_reducible rfl)
   try simp only[Act.put,List.setIfInBounds_toArray,List.set_cons_zero,List.set_cons_succ]
   refine wpAnyH_take (i:=14) (v:= ?_) rfl (by kernel_rfl) (by kernel_rfl) (by kernel_rfl) (fun _ _ _ h=>h) (Or.inl ⟨by kernel_rfl,?_⟩) (by assumption) ?_;rotate_left 1
   ·(intro w hSw;(try dsimp only at hSw);go_simp<;>with_reducible rfl)
   try simp only[Act.put,List.setIfInBounds_toArray,List.set_cons_zero,List.set_cons_succ]
   refine wpAnyH_take (i:=15) (v:= ?_) rfl (by kernel_rfl) (by kernel_rfl) (by kernel_rfl) (fun _ _ _ h=>h) (Or.inl ⟨by kernel_rfl,?_⟩) (by assumption) ?_;rotate_left 1
   ·(intro w hSw;(try dsimp only at hSw);go_simp<;>with_reducible rfl)
   try simp only[Act.put,List.setIfInBounds_toArray,List.set_cons_zero,List.set_cons_succ]
   refine wpAnyH_take (i:=16) (v:= ?_) rfl (by kernel_rfl) (by kernel_rfl) (by kernel_rfl) (fun _ _ _ h=>h) (Or.inl ⟨by kernel_rfl,?_⟩) (by assumption) ?_;rotate_left 1
   ·(intro w hSw;(try dsimp only at hSw);go_simp<;>with_reducible rfl)
   try simp only[Act.put,List.setIfInBounds_toArray,List.set_cons_zero,List.set_cons_succ]
   refine wpAnyH_take (i:=17) (v:= ?_) rfl (by kernel_rfl) (by kernel_rfl) (by kernel_rfl) (fun _ _ _ h=>h) (Or.inl ⟨by kernel_rfl,?_⟩) (by assumption) ?_;rotate_left 1
   ·(intro w hSw;(try dsimp only at hSw);go_simp<;>with_reducible rfl)
   try simp only[Act.put,List.setIfInBounds_toArray,List.set_cons_zero,List.set_cons_succ]
   refine wpAnyH_take (i:=18) (v:= ?_) rfl (by kernel_rfl) (by kernel_rfl) (by kernel_rfl) (fun _ _ _ h=>h) (Or.inl ⟨by rfl,?_⟩) (by assumption) ?_;rotate_left 1
   ·(intro w hSw;(try dsimp only at hSw);go_simp<;>with_reducible rfl)
   try simp only[Act.put,List.setIfInBounds_toArray,List.set_cons_zero,List.set_cons_succ]
   refine wpAnyH_take (i:=19) (v:= ?_) rfl (by kernel_rfl) (by kernel_rfl) (by kernel_rfl) (fun _ _ _ h=>h) (Or.inl ⟨by rfl,?_⟩) (by assumption) ?_;rotate_left 1
   ·(intro w hSw;(try dsimp only at hSw);go_simp<;>with_reducible rfl)
   try simp only[Act.put,List.setIfInBounds_toArray,List.set_cons_zero,List.set_cons_succ]
   refine wpAnyH_take (i:=20) (v:= ?_) rfl (by kernel_rfl) (by kernel_rfl) (by kernel_rfl) (fun _ _ _ h=>h) (Or.inl ⟨by rfl,?_⟩) (by assumption) ?_;rotate_left 1
   ·(intro w hSw;(try dsimp only at hSw);go_simp<;>with_reducible rfl)
   try simp only[Act.put,List.setIfInBounds_toArray,List.set_cons_zero,List.set_cons_succ]
   refine wpAnyH_take (i:=21) (v:= ?_) rfl (by kernel_rfl) (by kernel_rfl) (by kernel_rfl) (fun _ _ _ h=>h) (Or.inl ⟨by rfl,?_⟩) (by assumption) ?_;rotate_left 1
   ·(intro w hSw;(try dsimp only at hSw);go_simp<;>with_reducible rfl)
   try simp only[Act.put,List.setIfInBounds_toArray,List.set_cons_zero,List.set_cons_succ]
   refine wpAnyH_take (i:=22) (v:= ?_) rfl (by kernel_rfl) (by kernel_rfl) (by kernel_rfl) (fun _ _ _ h=>h) (Or.inl ⟨by rfl,?_⟩) (by assumption) ?_;rotate_left 1
   ·(intro w hSw;(try dsimp only at hSw);go_simp<;>with_reducible rfl)
   try simp only[Act.put,List.setIfInBounds_toArray,List.set_cons_zero,List.set_cons_succ]
   refine wpAnyH_take (i:=23) (v:= ?_) rfl (by kernel_rfl) (by kernel_rfl) (by kernel_rfl) (fun _ _ _ h=>h) (Or.inl ⟨by rfl,?_⟩) (by assumption) ?_;rotate_left 1
   ·(intro w hSw;(try dsimp only at hSw);go_simp<;>with_reducible rfl)
   try simp only[Act.put,List.setIfInBounds_toArray,List.set_cons_zero,List.set_cons_succ]
   refine wpAnyH_take (i:=24) (v:= ?_) rfl (by kernel_rfl) (by kernel_rfl) (by kernel_rfl) (fun _ _ _ h=>h) (Or.inl ⟨by rfl,?_⟩) (by assumption) ?_;rotate_left 1
   ·(intro w hSw;(try dsimp only at hSw);go_simp<;>with_reducible rfl)
   try simp only[Act.put,List.setIfInBounds_toArray,List.set_cons_zero,List.set_cons_succ]
   refine wpAnyH_take (i:=25) (v:= ?_) rfl (by kernel_rfl) (by kernel_rfl) (by kernel_rfl) (fun _ _ _ h=>h) (Or.inl ⟨by rfl,?_⟩) (by assumption) ?_;rotate_left 1
   ·(intro w hSw;(try dsimp only at hSw);go_simp<;>with_reducible rfl)
   try simp only[Act.put,List.setIfInBounds_toArray,List.set_cons_zero,List.set_cons_succ]
   refine wpAnyH_take (i:=26) (v:=undef) rfl (by kernel_rfl) (by kernel_rfl) (by kernel_rfl) (fun _ _ _ h=>h) (Or.inr ⟨?_,rfl⟩) (by assumption) ?_
   ·(simp[Region.wanted,yielded];done)
   try simp only[Act.put,List.setIfInBounds_toArray,List.set_cons_zero,List.set_cons_succ]
   refine wpAnyH_take (i:=27) (v:=undef) rfl (by kernel_rfl) (by kernel_rfl) (by kernel_rfl) (fun _ _ _ h=>h) (Or.inr ⟨?_,rfl⟩) (by assumption) ?_
   ·(simp[Region.wanted,yielded];done)
   try simp only[Act.put,List.setIfInBounds_toArray,List.set_cons_zero,List.set_cons_succ]
   refine wpAnyH_take (i:=28) (v:=undef) rfl (by kernel_rfl) (by kernel_rfl) (by kernel_rfl) (fun _ _ _ h=>h) (Or.inr ⟨?_,rfl⟩) (by assumption) ?_
   ·(simp[Region.wanted,yielded];done)
   try simp only[Act.put,List.setIfInBounds_toArray,List.set_cons_zero,List.set_cons_succ]
   refine wpAnyH_take (i:=29) (v:=undef) rfl (by kernel_rfl) (by kernel_rfl) (by kernel_rfl) (fun _ _ _ h=>h) (Or.inr ⟨?_,rfl⟩) (by assumption) ?_
   ·(simp[Region.wanted,yielded];done)
   try simp only[Act.put,List.setIfInBounds_toArray,List.set_cons_zero,List.set_cons_succ]
   refine wpAnyH_take (i:=30) (v:= ?_) rfl (by kernel_rfl) (by kernel_rfl) (by kernel_rfl) (fun _ _ _ h=>h) (Or.inl ⟨by rfl,?_⟩) (by assumption) ?_;rotate_left 1
   ·(intro w hSw;(try dsimp only at hSw);go_simp<;>with_reducible rfl)
   try simp only[Act.put,List.setIfInBounds_toArray,List.set_cons_zero,List.set_cons_succ]
   refine wpAnyH_take (i:=31) (v:= ?_) rfl (by kernel_rfl) (by kernel_rfl) (by kernel_rfl) (fun _ _ _ h=>h) (Or.inl ⟨by rfl,?_⟩) (by assumption) ?_;rotate_left 1
   ·(intro w hSw;(try dsimp only at hSw);go_simp<;>with_reducible rfl)
   try simp only[Act.put,List.setIfInBounds_toArray,List.set_cons_zero,List.set_cons_succ]
   refine wpAnyH_take (i:=32) (v:= ?_) rfl (by kernel_rfl) (by kernel_rfl) (by kernel_rfl) (fun _ _ _ h=>h) (Or.inl ⟨by rfl,?_⟩) (by assumption) ?_;rotate_left 1
   ·(intro w hSw;(try dsimp only at hSw);go_simp<;>with_reducible rfl)
   try simp only[Act.put,List.setIfInBounds_toArray,List.set_cons_zero,List.set_cons_succ]
   refine wpAnyH_ready (rs:=[33]) (by kernel_rfl) (by simp) ?_;refine AllReadyH.cons rfl (fun K hK=> ?_) AllReadyH.nil;go_simp;refine hK.out _ _ ⟨B1,B4,B6,B8⟩ (fun hHeld=> ?_);clear hK K;try simp only[Act.put,List.setIfInBounds_toArray,List.set_cons_zero,List.set_cons_succ]
   refine wpAnyH_take (i:=34) (v:= ?_) rfl (by kernel_rfl) (by kernel_rfl) (by kernel_rfl) (fun _ _ _ h=>h) (Or.inl ⟨by rfl,?_⟩) (by assumption) ?_;rotate_left 1
   ·(intro w hSw;(try dsimp only at hSw);go_simp<;>with_reducible rfl)
   try simp only[Act.put,List.setIfInBounds_toArray,List.set_cons_zero,List.set_cons_succ]
   refine wpAnyH_take (i:=35) (v:= ?_) rfl (by kernel_rfl) (by kernel_rfl) (by kernel_rfl) (fun _ _ _ h=>h) (Or.inl ⟨by rfl,?_⟩) (by assumption) ?_;rotate_left 1
   ·(intro w hSw;(try dsimp only at hSw);go_simp<;>with_reducible rfl)
   try simp only[Act.put,List.setIfInBounds_toArray,List.set_cons_zero,List.set_cons_succ]
   refine wpAnyH_ready (rs:=[36]) (by kernel_rfl) (by simp) ?_;refine AllReadyH.cons rfl (fun K hK=> ?_) AllReadyH.nil;go_simp;refine hK.out _ _ ⟨C1,C2,C3,C4⟩ (fun hHeld=> ?_);clear hK K;try simp only[Act.put,List.setIfInBounds_toArray,List.set_cons_zero,List.set_cons_succ]
   refine wpAnyH_done (by kernel_rfl) ?_ _;go_wp2_with fail;try go_ret2
   all_goals exact qr_fin (Fr.refl _ _).drew HM.out DD.out.1 (.inl ⟨1,rfl⟩)
  ·have hd1:decide ((0:Int)<((n1:Nat):Int))=true:=decide_eq_true (by omega)
   have hd2:decide ((0:Int)<((n2:Nat):Int))=true:=decide_eq_true (by omega);have hd3:decide (0<n1)=true:=decide_eq_true hp1;have hd4:decide (0<n2)=true:=decide_eq_true hp2;go_region_held3 (fun w'=>w'.cell? ⟨pz,1,none⟩=some (.slice A1 n1 c1)/\w'.cell? ⟨pr,1,none⟩=some (.slice A2 n2 c2)/\w'.cell? ⟨px,0,none⟩=some (.bool false)/\w'.cell? ⟨py,0,none⟩=some (.bool false)) (first|exact⟨by assumption,by assumption,by assumption,by assumption⟩|(refine⟨?_,?_,?_,?_⟩<;>first|exact B1|exact B2|exact B3|exact B4|exact B5|exact B6|exact B7|exact B8|exact C1|exact C2|exact C3|exact C4|go_keep)) (fail);all_goals (go_wp2_with fail)
   try go_ret2
   all_goals exact qr_fin (Fr.refl _ _).drew HM.out DD.out.1 (.inl ⟨1,rfl⟩)
end
end Go.Proofs.YthecibbmbnpegaaGreatDoor
