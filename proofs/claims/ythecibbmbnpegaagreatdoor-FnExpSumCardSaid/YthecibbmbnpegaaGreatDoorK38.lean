/-
  Part 38 of the proof of the law FnExpSum: XIntO, XLj, XLeP. Conditions: those of each statement.
-/
import Derived.Test.YthecibbmbnpegaaGreatDoorK36
import Derived.Test.YthecibbmbnpegaaGreatDoorK37
import Derived.Laws.Bits64
import Derived.Deep.DeepCutAuto
import Derived.Deep.RegionWith
set_option linter.unusedSimpArgs false
set_option linter.unusedVariables false
set_option maxRecDepth 100000
set_option maxHeartbeats 4000000
namespace Go.Proofs.YthecibbmbnpegaaGreatDoor
open Go.Big Go.RowKit
attribute [local go_sem ↓] Go.wp_at_zero Go.wp_at_succ
theorem PutR.res{w w':World}{A:Option Addr}{b o c:Nat}{V:Int}{A':Option Addr}{b' o' c':Nat}{zs:List Int}(h:PutR w A b o c V A' b' o' c' zs w'):ResR w A b o c (In1 b o c) V (.returned (.slice A' zs.length c')) w':=
 ⟨A',b',o',c',zs,rfl,h.1,h.2.1,h.2.2.1,h.2.2.2.1,h.2.2.2.2.1,h.2.2.2.2.2⟩
theorem res_of{w w':World}{A:Option Addr}{b o c:Nat}{V:Int}{e:Ending}(h: ∃A' b' o' c' zs,e= .returned (.slice A' zs.length c')/\PutR w A b o c V A' b' o' c' zs w'):ResR w A b o c (In1 b o c) V e w':=by
 obtain⟨A',b',o',c',zs,rfl,h⟩:=h;exact h.res
theorem nmulW_any(A:Option Addr)(l b o c:Nat)(Ax:Option Addr)(bx ox cx:Nat)(xs:List Int)(y:Int)(w:World)(h:Rcv w A b o c)(hl:l<=c)(hx:Nm w Ax bx ox cx xs)(hd:DG 18446744073709551616 xs)(hx9:xs.length<=1000000)(hal:Al b o c bx ox xs.length)(hy0:0<=y)(hy1:y<18446744073709551616):
 Calls Tryz.prog 50 #[.slice A l c,.slice Ax xs.length cx,.int .u64 y,.int .u64 0] w (ResR w A b o c (In1 b o c) (val 18446744073709551616 xs*y)):=by
 by_cases hy:y=0
 ·subst hy
  rw[Int.mul_zero];have F:=κ (show ResR w A b o c (In1 b o c) 0 (.returned (.slice A 0 c)) w from⟨A,b,o,c,[],rfl,Nm.nil h,DG.nil _,NZ.nil,val_nil _,.inl ⟨rfl,rfl,rfl,rfl⟩,Fc.refl _ _ _⟩);have C:=κ (setWord0_any A l c w h.1);have hc:=h.1;have hcx:=hx.max;have hxc:=hx.le;unfold maxLen at hc hcx;obtain⟨m,hm⟩: ∃m,m=xs.length:=⟨_,rfl⟩;rw[<-hm]at hx9 hxc ⊢
  clear h hx hd hal hm;by_cases hm0:m=0
  ·subst hm0
   go_enter Tryz.func50,Tryz.ntmps50;go_wp2_with (go_at_call 46;refine(C.out).mono ?_;rintro e w1 ⟨rfl,rfl⟩);go_ret;exact F.out
  ·have hm1:((m:Int)==0)=false:=by rw[beq_eq_false_iff_ne];omega
   go_enter Tryz.func50,Tryz.ntmps50;go_wp2_with (go_at_call 46;refine(C.out).mono ?_;rintro e w1 ⟨rfl,rfl⟩);go_ret;exact F.out
 ·have:=nmulAddR_any A l b o c Ax bx ox cx xs y 0 w h hl hx hd hx9 hal (by omega) hy1 (by omega) (by omega)
  rw[Int.add_zero]at this;exact this.mono (fun e w' hh=>res_of hh)
def IntW(w:World)(pz:Nat)(A:Option Addr)(bz oz cz:Nat)(V:Int)(w':World):Prop:=IntP w pz A bz oz cz cz V (.returned (.pointer (some ⟨pz,0,none⟩))) w'
theorem int_drew{w w':World}{pz:Nat}{A:Option Addr}{bz oz cz:Nat}{V:Int}(h:IntW w pz A bz oz cz V w'):IntW w pz A bz oz cz V w'.drew:=by
 obtain⟨neg',A',b',o',c',zs,h1,h2,h3,h4,h5,h6,h7,h8⟩:=h;exact⟨neg',A',b',o',c',zs,h1,h2.drew,h3.drew,h4,h5,h6,h7,h8.t (Fc.fr0 (Fr.refl _ _).drew _ _)⟩
section
variable {w:World}{pz:Nat}{nz:Bool}{A:Option Addr}{l bz oz cz px:Nat}{sx:Bool}{Ax:Option Addr}{bx ox cx:Nat}{xs:List Int}{y:Int}
theorem mulW_far(ng:Bool)(hz:IntB w pz nz A l cz)(hr:Rcv w A bz oz cz)(hlc:l<=cz)(hpb:pz≠bz)(hxb:px≠bz)(hzx:pz≠px)(hX:IntB w px sx Ax xs.length cx)(hx:Nm w Ax bx ox cx xs)(hd:DG 18446744073709551616 xs)(hx9:xs.length<=100000)(hal:Al bz oz cz bx ox xs.length)(hy0:0<=y)(hy1:y<18446744073709551616):
 Calls Tryz.prog 123 #[.pointer (some ⟨pz,0,none⟩),.pointer (some ⟨px,0,none⟩),.bool ng,.int .u64 y] w fun e w'=>e= .returned (.tuple #[])/\IntW w pz A bz oz cz (sg sx (val 18446744073709551616 xs)*sg ng y) w':=by
 have CM:=κ (fun W (f:Fr [] w W)=>nmulW_any A l bz oz cz Ax bx ox cx xs y W (hr.fc (Fc.fr0 f 51 (fun _ _=>False))) hlc (hx.fr0 f) hd (by omega) hal hy0 hy1);have HUV:=κ (sg_mul sx ng (val 18446744073709551616 xs) y);obtain⟨m,hm⟩: ∃m,m=xs.length:=⟨_,rfl⟩;have cz1:=hz.cell1;have cx1:=hX.cell1;rw[<-hm]at CM cx1 hX;have HX:=κ hX;have HZ:=κ hz;have HPB:=κ hpb;have HXB:=κ hxb;have hzx1: ¬pz=px:=hzx;have hzx2: ¬px=pz:=fun e=>hzx e.symm
 have hc9:=hr.1;have hcx9:=hx.max;have hxc:=hx.le;unfold maxLen at hc9 hcx9;rw[<-hm]at hx9 hxc;clear hz hr hX hx hd hal hzx hpb hxb hm;go_enter Tryz.func123,Tryz.ntmps123;go_upto_region 0 with fail;go_region_with (go_at_call 50;refine(CM.out _ (Fr.refl _ _).drew).mono ?_;intro e w2 hm;have HM:=κ hm;obtain⟨A',n0,c',rfl⟩:=hm.val;have HI:=κ (int_mid HZ.out (Fr.refl _ _).drew HPB.out hm);have HIX:=κ (int_mid HX.out (Fr.refl _ _).drew HXB.out hm);have z1:=HI.out.cell1;have z0:=HI.out.cell0;have y1:=HI.out.frozen 1;have y0:=HI.out.frozen 0;have x0:=HIX.out.cell0;clear hm)
 all_goals (
  clear CM cz1 cx1;go_wp2_with fail;first|go_end0|refine bodyPost_ret (results_none rfl _ _ _) rfl ?_
  exact⟨rfl,int_fin (sx !=ng) HZ.out (Fr.refl _ _).drew HPB.out HM.out HUV.out rfl⟩)
theorem mulW_same(ng:Bool)(hz:IntB w pz sx A xs.length cz)(hx:Nm w A bz oz cz xs)(hpb:pz≠bz)(hd:DG 18446744073709551616 xs)(hx9:xs.length<=100000)(hy0:0<=y)(hy1:y<18446744073709551616):
 Calls Tryz.prog 123 #[.pointer (some ⟨pz,0,none⟩),.pointer (some ⟨pz,0,none⟩),.bool ng,.int .u64 y] w fun e w'=>e= .returned (.tuple #[])/\IntW w pz A bz oz cz (sg sx (val 18446744073709551616 xs)*sg ng y) w':=by
 have CM:=κ (fun W (f:Fr [] w W)=>nmulW_any A xs.length bz oz cz A bz oz cz xs y W (hx.rcv.fc (Fc.fr0 f 51 (fun _ _=>False))) hx.le (hx.fr0 f) hd (by omega) (.inr ⟨rfl,rfl⟩) hy0 hy1);have HUV:=κ (sg_mul sx ng (val 18446744073709551616 xs) y);obtain⟨m,hm⟩: ∃m,m=xs.length:=⟨_,rfl⟩;have cz1:=hz.cell1;rw[<-hm]at CM cz1 hz;have HZ:=κ hz;have HPB:=κ hpb;have hcx9:=hx.max;have hxc:=hx.le;unfold maxLen at hcx9;rw[<-hm]at hx9 hxc;clear hz hx hd hpb hm;go_enter Tryz.func123,Tryz.ntmps123;go_upto_region 0 with fail;go_region_with (go_at_call 50;refine(CM.out _ (Fr.refl _ _).drew).mono ?_;intro e w2 hm;have HM:=κ hm;obtain⟨A',n0,c',rfl⟩:=hm.val;have HI:=κ (int_mid HZ.out (Fr.refl _ _).drew HPB.out hm);have z1:=HI.out.cell1;have z0:=HI.out.cell0;have y1:=HI.out.frozen 1;have y0:=HI.out.frozen 0;clear hm)
 all_goals (
  clear CM cz1;go_wp2_with fail;first|go_end0|refine bodyPost_ret (results_none rfl _ _ _) rfl ?_
  exact⟨rfl,int_fin (sx !=ng) HZ.out (Fr.refl _ _).drew HPB.out HM.out HUV.out rfl⟩)
end
theorem neq_ptrI{a c:Addr}{na nc:Bool}{A C:Option Addr}{la lc ca cc:Nat}(w:World)(hne:a≠c)(hz:IntB w a.block na A la ca)(hx:IntB w c.block nc C lc cc):
 (binOp .neq 38 (.pointer (some a)) (.pointer (some c))).run Tryz.prog w= .ok (.bool true) w:=by
 obtain⟨j,hj,hjs⟩: ∃j,Tryz.prog.info? 45=some j/\j.size=2:=by
  have h:(Tryz.prog.info? 45).map (·.size)=some 2:=by kernel_rfl
  cases e:Tryz.prog.info? 45 with
  |none=>rw[e]at h;cases h
  |some j=>rw[e]at h;exact⟨j,rfl,by simpa using h⟩
 have h: ∀d:Nat,(Op.equalIn (d+1) 38 (.pointer (some a)) (.pointer (some c))).run Tryz.prog w= .ok false w:=fun d=>by
  simp[Op.equalIn,run_underlying Tryz.underlying38,sizeOf,typeInfo,hj,hjs,run_sameAddr_other w hne hz hx]
 simp only[binOp];simp[Op.equal,Op.maxDepth,h 9999]
section
variable {w:World}{pz:Nat}{nz:Bool}{A:Option Addr}{l bz oz cz px:Nat}{sx:Bool}{Ax:Option Addr}{bx ox cx:Nat}{xs:List Int}{y:Int}
theorem intSet_any(hz:IntB w pz nz A l cz)(hr:Rcv w A bz oz cz)(hlc:l<=cz)(hpb:pz≠bz)(hxb:px≠bz)(hzx:pz≠px)(hX:IntB w px sx Ax xs.length cx)(hx:Nm w Ax bx ox cx xs)(hd:DG 18446744073709551616 xs)(hzx':NZ xs)(hx9:xs.length<=100000):
 Calls Tryz.prog 38 #[.pointer (some ⟨pz,0,none⟩),.pointer (some ⟨px,0,none⟩)] w fun e w'=>e= .returned (.pointer (some ⟨pz,0,none⟩))/\IntW w pz A bz oz cz (sg sx (val 18446744073709551616 xs)) w':=by
 have CM:=κ (fun W (f:Fr [] w W)=>(setR_all A l bz oz cz Ax bx ox cx xs W (hx.fr0 f) hd hzx' (hr.fc (Fc.fr0 f 51 (fun _ _=>False))) hlc (by omega)).mono (fun e w' hh=>res_of hh));have hq:=neq_ptrI (a:=⟨pz,0,none⟩) (c:=⟨px,0,none⟩) w (by intro e;injection e with e;exact hzx e) hz hX;obtain⟨m,hm⟩: ∃m,m=xs.length:=⟨_,rfl⟩;have cz1:=hz.cell1;have cx1:=hX.cell1;rw[<-hm]at CM cx1 hX;have HX:=κ hX;have HZ:=κ hz;have HPB:=κ hpb;have HXB:=κ hxb;have hzx1: ¬pz=px:=hzx;have hzx2: ¬px=pz:=fun e=>hzx e.symm
 have hc9:=hr.1;have hcx9:=hx.max;have hxc:=hx.le;unfold maxLen at hc9 hcx9;rw[<-hm]at hx9 hxc;clear hz hr hX hx hd hzx hpb hxb hm hzx';go_enter Tryz.func38,Tryz.ntmps38;go_upto_region 2 with fail;clear hq;go_region_with (go_at_call 41;refine(CM.out _ (Fr.refl _ _).drew).mono ?_;intro e w2 hm;have HM:=κ hm;obtain⟨A',n0,c',rfl⟩:=hm.val;have HI:=κ (int_mid HZ.out (Fr.refl _ _).drew HPB.out hm);have HIX:=κ (int_mid HX.out (Fr.refl _ _).drew HXB.out hm);have z1:=HI.out.cell1;have z0:=HI.out.cell0;have y1:=HI.out.frozen 1;have y0:=HI.out.frozen 0;have x0:=HIX.out.cell0;clear hm)
 all_goals (
  clear CM cz1 cx1;go_wp2_with fail;go_ret;exact⟨rfl,int_fin sx HZ.out (Fr.refl _ _).drew HPB.out HM.out rfl rfl⟩)
end
section
variable {w:World}{pz:Nat}{A:Option Addr}{bz oz cz py:Nat}{sx sy:Bool}{Ay:Option Addr}{by_ oy cy:Nat}{xs ys:List Int}
theorem intMulz_any(hz:IntB w pz sx A xs.length cz)(hx:Nm w A bz oz cz xs)(hd:DG 18446744073709551616 xs)(hzx:NZ xs)(hx9:xs.length<=100000)(hpb:pz≠bz)(hyb:py≠bz)(hzy:pz≠py)(hY:IntB w py sy Ay ys.length cy)(hy:Nm w Ay by_ oy cy ys)(hd':DG 18446744073709551616 ys)(hzy':NZ ys)(hy9:ys.length<=100000)
 (hmin:min xs.length ys.length<40)(hne:0<cz->0<cy->bz≠by_)(thr:Glo w 0 40):
 Calls Tryz.prog 84 #[.pointer (some ⟨pz,0,none⟩),.pointer none,.pointer (some ⟨pz,0,none⟩),.pointer (some ⟨py,0,none⟩)] w fun e w'=>e= .returned (.tuple #[])/\IntW w pz A bz oz cz (sg sx (val 18446744073709551616 xs)*sg sy (val 18446744073709551616 ys)) w':=by
 have hq:=eql_ptrI (a:=⟨pz,0,none⟩) (c:=⟨py,0,none⟩) w (by intro e;injection e with e;exact hzy e) hz hY;have CM:=κ ((mulz_any (hx.drew) hd hzx hx9 hy.drew hd' hzy' hy9 hmin hne (thr.fr0 (Fr.refl _ _).drew)).mono (fun e w' hh=>res_of hh));obtain⟨m,hm⟩: ∃m,m=xs.length:=⟨_,rfl⟩;obtain⟨n,hn⟩: ∃n,n=ys.length:=⟨_,rfl⟩;have cz1:=hz.cell1;have cy1:=hY.cell1;rw[<-hm]at CM cz1 hz;rw[<-hn]at CM cy1 hY;have HZ:=κ hz;have HY:=κ hY;have HPB:=κ hpb;have HYB:=κ hyb;have hzy1: ¬pz=py:=hzy;have hzy2: ¬py=pz:=fun e=>hzy e.symm
 obtain⟨U,hU⟩: ∃U,U=sg sx (val 18446744073709551616 xs)*sg sy (val 18446744073709551616 ys):=⟨_,rfl⟩;obtain⟨V,hV⟩: ∃V,V=val 18446744073709551616 xs*val 18446744073709551616 ys:=⟨_,rfl⟩;rw[<-hV]at CM;rw[<-hU];have HUV:=κ (show sg (sx !=sy) V=U by rw[hU,hV];exact sg_mul _ _ _ _);have hc9:=hx.max;have hcy9:=hy.max;have hxc:=hx.le;have hyc:=hy.le;unfold maxLen at hc9 hcy9;rw[<-hm]at hx9 hxc;rw[<-hn]at hy9 hyc;clear hz hx hd hzx hY hy hd' hzy' hzy hpb hyb hm hn hmin hne thr hU hV;go_enter Tryz.func84,Tryz.ntmps84;go_wp2_with fail;clear hq;go_region_with (go_at_call 33;refine(CM.out).mono ?_;intro e w2 hm;have HM:=κ hm;obtain⟨A',n0,c',rfl⟩:=hm.val;have HI:=κ (int_mid HZ.out (Fr.refl _ _).drew HPB.out hm);have HIY:=κ (int_mid HY.out (Fr.refl _ _).drew HYB.out hm);have z1:=HI.out.cell1;have y1:=HI.out.frozen 1;clear hm)
 all_goals (
  clear cz1 cy1 z1 y1;go_wp2_with fail;obtain⟨w3,hw3⟩: ∃w3,w3=w2.setCell ⟨pz,1,none⟩ (.slice A' n0 c'):=⟨_,rfl⟩;have z1:w3.cell? ⟨pz,1,none⟩=some (.slice A' n0 c'):=by rw[hw3];exact(HI.out.set1 A' n0 c').cell1
  have z0:w3.cell? ⟨pz,0,none⟩=some (.bool sx):=by rw[hw3];exact(HI.out.set1 A' n0 c').cell0
  have y0:w3.frozen? ⟨pz,0,none⟩=false:=by rw[hw3];exact(HI.out.set1 A' n0 c').frozen 0
  have x1:w3.cell? ⟨py,0,none⟩=some (.bool sy):=by rw[hw3];exact cell_far HIY.out.cell0 hzy1
  have HW3:=κ hw3;rw[<-hw3];clear hw3;rcases Nat.eq_zero_or_pos n0 with rfl|hn0)
 all_goals (
  go_region;go_wp2_with fail;first|go_end0|refine bodyPost_ret (results_none rfl _ _ _) rfl ?_
  have HMM:=HM.out;have HUU:=HUV.out
  first
   |exact⟨rfl,int_drew (int_fin false HZ.out (Fr.refl _ _).drew HPB.out HMM (sg_zero HMM.zero HUU) (by rw[HW3.out]))⟩
   |exact⟨rfl,int_drew (int_fin (sx !=sy) HZ.out (Fr.refl _ _).drew HPB.out HMM HUU (by rw[HW3.out];rfl))⟩)
end
end Go.Proofs.YthecibbmbnpegaaGreatDoor
namespace Go.Proofs.YthecibbmbnpegaaGreatDoor
open Go.Big Go.RowKit
section
variable {w0 w w':World}{W:List In}{x y z:In}{V:Int}
theorem IntP.li{b k:Nat}{e:Ending}(h:Li w0 w (z::W))(hb:0<z.c->b=z.b)(hb0:z.c=0->b=w.heap.size)(hp:IntP w z.p z.A b z.o z.c k V e w'):e= .returned z.pt/\PutI w0 W z V w':=by
 obtain⟨ng,A',b',o',c',zs,rfl,h1,h2,h3,h4,h5,h6,h7⟩:=hp;refine⟨rfl,⟨z.p,ng,A',b',o',c',zs⟩,rfl,h5,h.put (h7.mono (fun b i hh hlt=> ?_)) ⟨h1,h2,h3,h4⟩ rfl ?_⟩
 ·rcases hh with hh|hh
  ·exact .inl hh
  ·by_cases hc:0<z.c
   ·exact .inr ⟨hc,by rw[hh.1,hb hc]⟩
   ·have:=hh.1;have:=hb0 (by omega);omega
 ·rcases h6 with⟨_,e2,_,e4⟩|⟨e2,_⟩
  ·by_cases hc:0<z.c
   ·exact .inr (.inl ⟨by simp only;rw[e2,hb hc],e4⟩)
   ·exact .inl (by simp only;omega)
  ·exact .inr (.inr e2)
theorem Li.pp(h:Li w0 w (z::W))(hy:y∈W):z.p≠y.p:=by
 have hd:=h.dj;rw[List.pairwise_cons]at hd;exact(hd.1 y hy).1
theorem addI(h:Li w0 w (z::W))(hx:x∈z::W)(hy:y∈W)(hx9:x.xs.length<=1000)(hy9:y.xs.length<=1000):
 Calls Tryz.prog 63 #[z.pt,x.pt,y.pt] w fun e w'=>e= .returned z.pt/\PutI w0 W z (x.v+y.v) w':=by
 have hz:=h.ok z (by simp);obtain⟨b,hb,hb0,hr⟩:=hz.rcv;have ox:=h.ok x hx;have hy':y∈z::W:=List.mem_cons_of_mem _ hy;have oy:=h.ok y hy';exact(intAddS_any 1001 z.p z.ng z.A z.xs.length b z.o z.c x.p x.ng x.A x.b x.o x.c x.xs y.p y.ng y.A y.b y.o y.c y.xs w hz.ib hr hz.nm.le (h.pne (by simp) hb hb0) (h.pp hy) (h.pne hx hb hb0) (h.pne hy' hb hb0) ox.ib ox.nm ox.dg ox.nz oy.ib oy.nm oy.dg oy.nz (by omega) (by omega) (by omega) ox.c9 oy.c9 hz.c9 (h.al hx hb hb0) (h.al hy' hb hb0)).mono (fun e w' hp=>IntP.li h hb hb0 hp)
theorem subI(h:Li w0 w (z::W))(hx:x∈z::W)(hy:y∈W)(hx9:x.xs.length<=1000)(hy9:y.xs.length<=1000):
 Calls Tryz.prog 83 #[z.pt,x.pt,y.pt] w fun e w'=>e= .returned z.pt/\PutI w0 W z (x.v-y.v) w':=by
 have hz:=h.ok z (by simp);obtain⟨b,hb,hb0,hr⟩:=hz.rcv;have ox:=h.ok x hx;have hy':y∈z::W:=List.mem_cons_of_mem _ hy;have oy:=h.ok y hy';exact(intSubS_any 1001 z.p z.ng z.A z.xs.length b z.o z.c x.p x.ng x.A x.b x.o x.c x.xs y.p y.ng y.A y.b y.o y.c y.xs w hz.ib hr hz.nm.le (h.pne (by simp) hb hb0) (h.pp hy) (h.pne hx hb hb0) (h.pne hy' hb hb0) ox.ib ox.nm ox.dg ox.nz oy.ib oy.nm oy.dg oy.nz (by omega) (by omega) (by omega) ox.c9 oy.c9 hz.c9 (h.al hx hb hb0) (h.al hy' hb hb0)).mono (fun e w' hp=>IntP.li h hb hb0 hp)
theorem IntW.li{b:Nat}(h:Li w0 w (z::W))(hb:0<z.c->b=z.b)(hb0:z.c=0->b=w.heap.size)(hp:IntW w z.p z.A b z.o z.c V w'):PutI w0 W z V w':=(IntP.li h hb hb0 hp).2
theorem mulWI(ng:Bool){u:Int}(h:Li w0 w (z::W))(hx:x∈W)(hx9:x.xs.length<=1000)(hu0:0<=u)(hu1:u<18446744073709551616):
 Calls Tryz.prog 123 #[z.pt,x.pt,.bool ng,.int .u64 u] w fun e w'=>e= .returned (.tuple #[])/\PutI w0 W z (x.v*sg ng u) w':=by
 have hz:=h.ok z (by simp);obtain⟨b,hb,hb0,hr⟩:=hz.rcv;have hx':x∈z::W:=List.mem_cons_of_mem _ hx;have ox:=h.ok x hx'
 have hal:Al b z.o z.c x.b x.o x.xs.length:=by
  by_cases hl:0<x.xs.length
  ·exact h.al hx' hb hb0 hl
  ·exact .inl (by unfold Dj;omega)
 exact(mulW_far (y:=u) ng hz.ib hr hz.nm.le (h.pne (by simp) hb hb0) (h.pne hx' hb hb0) (h.pp hx) ox.ib ox.nm ox.dg (by omega) hal hu0 hu1).mono (fun e w' hp=>⟨hp.1,IntW.li h hb hb0 hp.2⟩)
theorem mulWJ(ng:Bool){u:Int}(h:Li w0 w (z::W))(hx9:z.xs.length<=1000)(hu0:0<=u)(hu1:u<18446744073709551616):
 Calls Tryz.prog 123 #[z.pt,z.pt,.bool ng,.int .u64 u] w fun e w'=>e= .returned (.tuple #[])/\PutI w0 W z (z.v*sg ng u) w':=by
 have hz:=h.ok z (by simp);obtain⟨b,hb,hb0,hr⟩:=hz.rcv
 have hn:Nm w z.A b z.o z.c z.xs:=⟨hz.nm.le,hr,fun hl=>by
  have:=hb (by have:=hz.nm.le;omega);rw[this];exact hz.nm.2.2 hl⟩;exact(mulW_same (y:=u) ng hz.ib hn (h.pne (by simp) hb hb0) hz.dg (by omega) hu0 hu1).mono (fun e w' hp=>⟨hp.1,IntW.li h hb hb0 hp.2⟩)
theorem setI(h:Li w0 w (z::W))(hx:x∈W)(hx9:x.xs.length<=1000):
 Calls Tryz.prog 38 #[z.pt,x.pt] w fun e w'=>e= .returned z.pt/\PutI w0 W z x.v w':=by
 have hz:=h.ok z (by simp);obtain⟨b,hb,hb0,hr⟩:=hz.rcv;have hx':x∈z::W:=List.mem_cons_of_mem _ hx;have ox:=h.ok x hx';exact(intSet_any hz.ib hr hz.nm.le (h.pne (by simp) hb hb0) (h.pne hx' hb hb0) (h.pp hx) ox.ib ox.nm ox.dg ox.nz (by omega)).mono (fun e w' hp=>⟨hp.1,IntW.li h hb hb0 hp.2⟩)
theorem setO(h:Li w0 w (z::W))(hx:InOk w0 x)(hx9:x.xs.length<=1000):
 Calls Tryz.prog 38 #[z.pt,x.pt] w fun e w'=>e= .returned z.pt/\PutI w0 W z x.v w':=by
 have hz:=h.ok z (by simp);obtain⟨b,hb,hb0,hr⟩:=hz.rcv;have ox:=hx.fr0 h.fr;have hl:=hx.ib.lt;have hn:=h.nw z (by simp);have hs:=h.fr.size
 have hpb:x.p≠b:=by
  by_cases hc:0<z.c
  ·rw[hb hc];exact ox.pb hz hc
  ·rw[hb0 (by omega)];omega
 exact(intSet_any hz.ib hr hz.nm.le (h.pne (by simp) hb hb0) hpb (by omega) ox.ib ox.nm ox.dg ox.nz (by omega)).mono (fun e w' hp=>⟨hp.1,IntW.li h hb hb0 hp.2⟩)
theorem mulI(h:Li w0 w (z::W))(hy:y∈W)(hz9:z.xs.length<=1000)(hy9:y.xs.length<=1000)(hmin:min z.xs.length y.xs.length<40)(thr:Glo w 0 40):
 Calls Tryz.prog 84 #[z.pt,.pointer none,z.pt,y.pt] w fun e w'=>e= .returned (.tuple #[])/\PutI w0 W z (z.v*y.v) w':=by
 have hz:=h.ok z (by simp);obtain⟨b,hb,hb0,hr⟩:=hz.rcv;have hy':y∈z::W:=List.mem_cons_of_mem _ hy;have oy:=h.ok y hy'
 have hn:Nm w z.A b z.o z.c z.xs:=⟨hz.nm.le,hr,fun hl=>by
  have:=hb (by have:=hz.nm.le;omega);rw[this];exact hz.nm.2.2 hl⟩;have hd:=h.dj;rw[List.pairwise_cons]at hd;have hdy:=(hd.1 y hy).2;exact(intMulz_any hz.ib hn hz.dg hz.nz (by omega) (h.pne (by simp) hb hb0) (h.pne hy' hb hb0) (h.pp hy) oy.ib oy.nm oy.dg oy.nz (by omega) hmin (fun h1 h2=>by rw[hb h1];omega) thr).mono (fun e w' hp=>⟨hp.1,IntW.li h hb hb0 hp.2⟩)
end
end Go.Proofs.YthecibbmbnpegaaGreatDoor
namespace Go.Big
structure LeI(a b A B U V e:Int):Prop where
 a0:0<A
 b0:0<=B
 ab:B<=A
 e1:e=1\/e= -1
 det:A*V-B*U=e*b
 su:e*U<=0
 sv:0<=e*V
 cu:Cg b A (U*a)
 cv:Cg b B (V*a)
 dv: ∀d:Int,d∣A->d∣B->d∣a/\d∣b
 bd: -b<=U/\U<=b
theorem LeI.start1{a b:Int}(hb:0<b)(h:b<=a):LeI a b a b 1 0 (-1):=
 ⟨by omega,by omega,h,.inr rfl,by omega,by omega,by omega,by rw[Int.one_mul];exact Cg.refl _ _,⟨1,by omega⟩,fun d h1 h2=>⟨h1,h2⟩,by omega⟩
theorem LeI.start2{a b:Int}(ha:0<=a)(h:a<=b)(hb:0<b):LeI a b b a 0 1 1:=
 ⟨hb,ha,h,.inl rfl,by omega,by omega,by omega,⟨1,by omega⟩,by rw[Int.one_mul];exact Cg.refl _ _,fun d h1 h2=>⟨h2,h1⟩,by omega⟩
theorem LeI.sum{a b A B U V e:Int}(I:LeI a b A B U V e):A*(e*V)+B*(-(e*U))=b:=by
 have h:=I.det;have h1:A*(e*V)+B*(-(e*U))=e*(A*V-B*U):=by grind
 have h2:e*(e*b)=b:=by rcases I.e1 with rfl|rfl<;>omega
 rw[h1,h,h2]
theorem LeI.vb{a b A B U V e:Int}(I:LeI a b A B U V e): -b<=V/\V<=b:=by
 have h:=I.sum;have h1:0<=B*(-(e*U)):=Int.mul_nonneg I.b0 (by have:=I.su;omega);have h2:1*(e*V)<=A*(e*V):=Int.mul_le_mul_of_nonneg_right (by have:=I.a0;omega) I.sv;have h3:=I.sv;rcases I.e1 with rfl|rfl<;>omega
theorem dvd_comb{d x y p q:Int}(h1:d∣x)(h2:d∣y):d∣p*x+q*y:=Int.dvd_add (Int.dvd_mul_of_dvd_right h1) (Int.dvd_mul_of_dvd_right h2)
theorem LeI.euclid{a b A B U V e q r:Int}(I:LeI a b A B U V e)(hb:0<B)(hq:q=A/B)(hr:r=A%B):LeI a b B r V (U-q*V) (-e):=by
 have e1:=Int.emod_add_mul_ediv A B;have r0:=Int.emod_nonneg A (show B≠0 by omega);have r1:=Int.emod_lt_of_pos A hb;have q0:0<=q:=by rw[hq];exact Int.ediv_nonneg (by have:=I.a0;omega) (by omega)
 rw[<-hr,<- hq]at e1;rw[<-hr]at r0 r1;have hA:A=r+B*q:=by omega
 have hVb:=I.vb;refine⟨hb,r0,by omega,by rcases I.e1 with h|h<;>omega,?_,?_,?_,I.cv,?_,fun d h1 h2=> ?_,hVb⟩
 ·have h:=I.det
  rw[hA]at h;have e2:B*(U-q*V)-r*V= -((r+B*q)*V-B*U):=by grind
  rw[e2,h,Int.neg_mul]
 ·have:=I.sv;rw[Int.neg_mul];omega
 ·have h1:=I.su
  have h2:=Int.mul_nonneg q0 I.sv;have e2: -e*(U-q*V)= -(e*U)+q*(e*V):=by grind
  rw[e2];omega
 ·have h:=I.cu.sub ((Cg.refl b q).mul I.cv)
  have e2:A-q*B=r:=by rw[hA,Int.mul_comm q B];omega
  have e3:U*a-q*(V*a)=(U-q*V)*a:=by grind
  rwa[e2,e3]at h
 ·refine I.dv d ?_ h1
  rw[hA];exact Int.dvd_add h2 (Int.dvd_mul_of_dvd_left h1)
structure LeM(A B u0 u1 v0 v1 s:Int):Prop where
 s1:s=1\/s= -1
 det:u0*v1-u1*v0=s
 u00:0<=u0
 u10:0<=u1
 v00:0<=v0
 v10:0<=v1
 uu:u0<=u1
 vv:v0<=v1
 b0:0<=s*(v1*B-u1*A)
 ab:s*(v1*B-u1*A)<=s*(u0*A-v0*B)
 a0:0<s*(u0*A-v0*B)
theorem LeM.back{A B u0 u1 v0 v1 s:Int}(M:LeM A B u0 u1 v0 v1 s):v1*(s*(u0*A-v0*B))+v0*(s*(v1*B-u1*A))=A/\u1*(s*(u0*A-v0*B))+u0*(s*(v1*B-u1*A))=B:=by
 have hd:=M.det;constructor
 ·have e:v1*(s*(u0*A-v0*B))+v0*(s*(v1*B-u1*A))=s*(u0*v1-u1*v0)*A:=by grind
  rw[e,hd];rcases M.s1 with rfl|rfl<;>omega
 ·have e:u1*(s*(u0*A-v0*B))+u0*(s*(v1*B-u1*A))=s*(u0*v1-u1*v0)*B:=by grind
  rw[e,hd];rcases M.s1 with rfl|rfl<;>omega
theorem mul_sign{s e:Int}(h1:s=1\/s= -1)(h2:e=1\/e= -1):s*e=1\/s*e= -1:=by rcases h1 with rfl|rfl<;>rcases h2 with rfl|rfl<;>simp
theorem sq_sign{s:Int}(h:s=1\/s= -1):s*s=1:=by rcases h with rfl|rfl<;>rfl
theorem LeI.mat{a b A B U V e u0 u1 v0 v1 s:Int}(I:LeI a b A B U V e)(M:LeM A B u0 u1 v0 v1 s):
 LeI a b (s*(u0*A-v0*B)) (s*(v1*B-u1*A)) (s*(u0*U-v0*V)) (s*(v1*V-u1*U)) (s*e):=by
 have hss:=sq_sign M.s1;have hk:=M.back;have hdet:=M.det;refine⟨M.a0,M.b0,M.ab,mul_sign M.s1 I.e1,?_,?_,?_,?_,?_,fun d h1 h2=> ?_,?_⟩
 ·have h:=I.det
  have e1:s*(u0*A-v0*B)*(s*(v1*V-u1*U))-s*(v1*B-u1*A)*(s*(u0*U-v0*V))=(s*s)*((u0*v1-u1*v0)*(A*V-B*U)):=by grind
  rw[e1,hss,hdet,h,Int.one_mul,Int.mul_assoc]
 ·have h1:=Int.mul_nonneg M.u00 (show 0<= -(e*U)by have:=I.su;omega)
  have h2:=Int.mul_nonneg M.v00 I.sv;have e1:s*e*(s*(u0*U-v0*V))=(s*s)* -(u0* -(e*U)+v0*(e*V)):=by grind
  rw[e1,hss];omega
 ·have h1:=Int.mul_nonneg M.u10 (show 0<= -(e*U)by have:=I.su;omega)
  have h2:=Int.mul_nonneg M.v10 I.sv;have e1:s*e*(s*(v1*V-u1*U))=(s*s)*(u1* -(e*U)+v1*(e*V)):=by grind
  rw[e1,hss];omega
 ·have h:=(Cg.refl b s).mul (((Cg.refl b u0).mul I.cu).sub ((Cg.refl b v0).mul I.cv))
  have e1:s*(u0*(U*a)-v0*(V*a))=s*(u0*U-v0*V)*a:=by grind
  rwa[e1]at h
 ·have h:=(Cg.refl b s).mul (((Cg.refl b v1).mul I.cv).sub ((Cg.refl b u1).mul I.cu))
  have e1:s*(v1*(V*a)-u1*(U*a))=s*(v1*V-u1*U)*a:=by grind
  rwa[e1]at h
 ·refine I.dv d ?_ ?_
  ·rw[<-hk.1];exact dvd_comb h1 h2
  ·rw[<-hk.2];exact dvd_comb h1 h2
 ·
  have hsum:=I.sum;have a1:=M.a0;have b1:=M.b0;generalize s*(u0*A-v0*B)=A' at hk a1;generalize s*(v1*B-u1*A)=B' at hk b1
  have k1:u0<=B:=by
   have h1:u1*1<=u1*A':=Int.mul_le_mul_of_nonneg_left (by omega) M.u10;have h2:=Int.mul_nonneg M.u00 b1;have:=M.uu;omega
  have k2:v0<=A:=by
   have h1:v1*1<=v1*A':=Int.mul_le_mul_of_nonneg_left (by omega) M.v10;have h2:=Int.mul_nonneg M.v00 b1;have:=M.vv;omega
  have p1:u0* -(e*U)<=B* -(e*U):=Int.mul_le_mul_of_nonneg_right k1 (by have:=I.su;omega);have p2:v0*(e*V)<=A*(e*V):=Int.mul_le_mul_of_nonneg_right k2 I.sv;have p3:=Int.mul_nonneg M.u00 (show 0<= -(e*U)by have:=I.su;omega);have p4:=Int.mul_nonneg M.v00 I.sv;have e1:e*(u0*U-v0*V)= -(u0* -(e*U)+v0*(e*V)):=by grind
  generalize u0* -(e*U)=x1 at*;generalize v0*(e*V)=x2 at*;generalize u0*U-v0*V=y at*;rcases I.e1 with rfl|rfl<;>rcases M.s1 with rfl|rfl<;>omega
theorem LeM.less{A B u0 u1 v0 v1 s:Int}(M:LeM A B u0 u1 v0 v1 s)(hv:1<=v0)(hB:0<B):s*(u0*A-v0*B)+s*(v1*B-u1*A)<A+B:=by
 have hk:=M.back.1;have a1:=M.a0;have b1:=M.b0;generalize s*(u0*A-v0*B)=A' at*;generalize s*(v1*B-u1*A)=B' at*;have h1:1*A'<=v1*A':=Int.mul_le_mul_of_nonneg_right (by have:=M.vv;omega) (by omega);have h2:1*B'<=v0*B':=Int.mul_le_mul_of_nonneg_right hv b1;omega
structure SmI(h1 h2 a1 a2 u1 u2 v1 v2 t:Int):Prop where
 t1:t=1\/t= -1
 det:u1*v2-u2*v1=t
 e1:a1=t*(u1*h1-v1*h2)
 e2:a2=t*(v2*h2-u2*h1)
 a20:0<=a2
 a12:a2<=a1
 u10:0<=u1
 u20:0<=u2
 v10:0<=v1
 v21:1<=v2
 uv:u2<=v2
 us:u1+u2<=v1+v2
def SmP(h1 h2 a1 u0 u1 v0 v1 t:Int):Prop:=
 v0=0\/ ∃p1,p1= -t*(u0*h1-v0*h2)/\a1= -t*(v1*h2-u1*h1)/\u0*v1-u1*v0= -t/\v1<=a1/\v0+v1<=p1-a1/\0<=u0/\u0<=u1/\0<=v0/\v0<=v1/\u1<=v1/\u0+u1<=v0+v1/\1<=v1
theorem SmI.start{h1 h2:Int}(h20:0<=h2)(h21:h2<=h1):SmI h1 h2 h1 h2 1 0 0 1 1:=⟨.inl rfl,by omega,by omega,by omega,h20,h21,by omega,by omega,by omega,by omega,by omega,by omega⟩
theorem SmI.h1{h1 h2 a1 a2 u1 u2 v1 v2 t:Int}(I:SmI h1 h2 a1 a2 u1 u2 v1 v2 t):a1*v2+a2*v1=h1:=by
 have e:a1*v2+a2*v1=t*(u1*v2-u2*v1)*h1:=by rw[I.e1,I.e2];grind
 rw[e,I.det,sq_sign I.t1,Int.one_mul]
theorem SmI.fits{h1 h2 a1 a2 u1 u2 v1 v2 t:Int}(I:SmI h1 h2 a1 a2 u1 u2 v1 v2 t)(ha:1<=a2):v1+v2<=h1:=by
 have h:=I.h1;have k1:1*v2<=a1*v2:=Int.mul_le_mul_of_nonneg_right (by have:=I.a12;omega) (by have:=I.v21;omega);have k2:1*v1<=a2*v1:=Int.mul_le_mul_of_nonneg_right ha I.v10;omega
theorem SmI.step{h1 h2 a1 a2 u1 u2 v1 v2 t q r:Int}(I:SmI h1 h2 a1 a2 u1 u2 v1 v2 t)(ha:1<=a2)(hq:q=a1/a2)(hr:r=a1%a2):
 SmI h1 h2 a2 r u2 (u1+q*u2) v2 (v1+q*v2) (-t)/\1<=q/\v1+q*v2<=h1/\u1+q*u2<=v1+q*v2/\0<=q*u2/\0<=q*v2/\u2<=u1+q*u2/\v2<=v1+q*v2:=by
 have e0:=Int.emod_add_mul_ediv a1 a2;have r0:=Int.emod_nonneg a1 (show a2≠0 by omega);have r1:=Int.emod_lt_of_pos a1 (show 0<a2 by omega);rw[<-hr,<- hq]at e0;rw[<-hr]at r0 r1;have q1:1<=q:=by rw[hq];exact Int.le_ediv_of_mul_le (by omega) (by have:=I.a12;omega)
 have hu:=I.u10;have hu2:=I.u20;have hv:=I.v10;have hv2:=I.v21;have huv:=I.uv;have hus:=I.us;have p1:1*u2<=q*u2:=Int.mul_le_mul_of_nonneg_right q1 hu2;have p2:1*v2<=q*v2:=Int.mul_le_mul_of_nonneg_right q1 (by omega);have p3:(q-1)*u2<=(q-1)*v2:=Int.mul_le_mul_of_nonneg_left huv (by omega);have p4:(q-1)*u2=q*u2-u2:=by grind
 have p5:(q-1)*v2=q*v2-v2:=by grind
 have hh:=I.h1
 have hfit:v1+q*v2<=h1:=by
  have k0:0<=r*v2:=Int.mul_nonneg r0 (by omega);have k1:a2*(v1+q*v2)+r*v2=h1:=by rw[<-hh,<- e0];grind
  have k2:1*(v1+q*v2)<=a2*(v1+q*v2):=Int.mul_le_mul_of_nonneg_right ha (by omega);omega
 refine⟨⟨by rcases I.t1 with h|h<;>omega,?_,?_,?_,r0,by omega,hu2,by omega,by omega,by omega,by omega,by omega⟩,q1,hfit,by omega,by omega,by omega,by omega,by omega⟩
 ·have h:=I.det
  have e:u2*(v1+q*v2)-(u1+q*u2)*v2= -(u1*v2-u2*v1):=by grind
  rw[e,h]
 ·rw[I.e2];grind
 ·have hr':r=a1-a2*q:=by omega
  rw[hr',I.e1,I.e2];grind
theorem SmI.prev{h1 h2 a1 a2 u1 u2 v1 v2 t q:Int}(I:SmI h1 h2 a1 a2 u1 u2 v1 v2 t)(c1:v2<=a2)(c2:v1+v2<=a1-a2)(hm:v1=0\/(u1<=u2/\v1<=v2)):SmP h1 h2 a2 u1 u2 v1 v2 (-t):=by
 rcases hm with h|⟨h,h'⟩
 ·exact .inl h
 ·refine .inr ⟨a1,?_,?_,?_,c1,c2,I.u10,h,I.v10,h',I.uv,I.us,I.v21⟩
  ·rw[Int.neg_neg];exact I.e1
  ·rw[Int.neg_neg];exact I.e2
  ·rw[Int.neg_neg];exact I.det
theorem SmP.mat{A B T h1 h2 a1 u0 u1 v0 v1 t:Int}(P:SmP h1 h2 a1 u0 u1 v0 v1 t)(ht:t=1\/t= -1)(hv:v0≠0)(hT:0<T)(e1:h1=A/T)(e2:h2=B/T):LeM A B u0 u1 v0 v1 (-t):=by
 rcases P with h|⟨p1,k1,k2,k3,k4,k5,k6,k7,k8,k9,k10,k11,k12⟩
 ·exact absurd h hv
 have hA:=Int.emod_add_mul_ediv A T;have hB:=Int.emod_add_mul_ediv B T;have al:=Int.emod_nonneg A (show T≠0 by omega);have al1:=Int.emod_lt_of_pos A hT;have be:=Int.emod_nonneg B (show T≠0 by omega);have be1:=Int.emod_lt_of_pos B hT;rw[<-e1]at hA;rw[<-e2]at hB;generalize A%T=α at*;generalize B%T=β at*;have u10:0<=u1:=by omega
 have x1:0<=u1*α:=Int.mul_nonneg u10 al;have x2:u1*α<=v1*α:=Int.mul_le_mul_of_nonneg_right k10 al;have x3:v1*α<=v1*(T-1):=Int.mul_le_mul_of_nonneg_left (by omega) (by omega);have x4:0<=v1*β:=Int.mul_nonneg (by omega) be;have x5:v1*β<=v1*(T-1):=Int.mul_le_mul_of_nonneg_left (by omega) (by omega);have x6:v1*(T-1)=v1*T-v1:=by grind
 have x7:v1*T<=a1*T:=Int.mul_le_mul_of_nonneg_right k4 (by omega);have y1:0<=(u0+u1)*α:=Int.mul_nonneg (by omega) al;have y2:(u0+u1)*α<=(v0+v1)*α:=Int.mul_le_mul_of_nonneg_right k11 al;have y3:(v0+v1)*α<=(v0+v1)*(T-1):=Int.mul_le_mul_of_nonneg_left (by omega) (by omega);have y4:0<=(v0+v1)*β:=Int.mul_nonneg (by omega) be;have y5:(v0+v1)*β<=(v0+v1)*(T-1):=Int.mul_le_mul_of_nonneg_left (by omega) (by omega);have y6:(v0+v1)*(T-1)=(v0+v1)*T-(v0+v1):=by grind
 have y7:(v0+v1)*T<=(p1-a1)*T:=Int.mul_le_mul_of_nonneg_right k5 (by omega);have z1: -t*(v1*B-u1*A)=a1*T+ -t*(v1*β-u1*α):=by rw[k2,<- hA,<- hB];grind
 have z2: -t*(u0*A-v0*B)- -t*(v1*B-u1*A)=(p1-a1)*T+ -t*((u0+u1)*α-(v0+v1)*β):=by
  have e:(p1-a1)*T=p1*T-a1*T:=by grind
  rw[e,k1,k2,<- hA,<- hB];grind
 have b0:0<= -t*(v1*B-u1*A):=by rw[z1];rcases ht with rfl|rfl<;>omega
 have ab: -t*(v1*B-u1*A)< -t*(u0*A-v0*B):=by
  have:0< -t*(u0*A-v0*B)- -t*(v1*B-u1*A):=by rw[z2];rcases ht with rfl|rfl<;>omega
  omega
 exact⟨by rcases ht with rfl|rfl<;>simp,k3,k6,u10,k8,by omega,k7,k9,b0,by omega,by omega⟩
structure SwI(A B a b ua ub va vb s:Int):Prop where
 s1:s=1\/s= -1
 det:ua*vb-ub*va=s
 e1:a=s*(ua*A-va*B)
 e2:b=s*(vb*B-ub*A)
 a0:0<a
 b0:0<=b
 ab:b<=a
 ua0:0<=ua
 ub0:0<=ub
 va0:0<=va
 vb0:0<=vb
 mo:b=B\/(ua<=ub/\va<=vb)
theorem SwI.start{A B:Int}(ha:0<A)(hb:0<=B)(h:B<=A):SwI A B A B 1 0 0 1 1:=⟨.inl rfl,by omega,by omega,by omega,ha,hb,h,by omega,by omega,by omega,by omega,.inl rfl⟩
theorem SwI.back{A B a b ua ub va vb s:Int}(I:SwI A B a b ua ub va vb s):a*vb+b*va=A/\a*ub+b*ua=B:=by
 have hd:=I.det;have hs:=sq_sign I.s1;constructor
 ·have e:a*vb+b*va=s*(ua*vb-ub*va)*A:=by rw[I.e1,I.e2];grind
  rw[e,hd,hs,Int.one_mul]
 ·have e:a*ub+b*ua=s*(ua*vb-ub*va)*B:=by rw[I.e1,I.e2];grind
  rw[e,hd,hs,Int.one_mul]
theorem SwI.fits{A B a b ua ub va vb s:Int}(I:SwI A B a b ua ub va vb s):vb<=A/\ub<=B:=by
 have h:=I.back;have k1:1*vb<=a*vb:=Int.mul_le_mul_of_nonneg_right (by have:=I.a0;omega) I.vb0;have k2:1*ub<=a*ub:=Int.mul_le_mul_of_nonneg_right (by have:=I.a0;omega) I.ub0;have k3:=Int.mul_nonneg I.b0 I.va0;have k4:=Int.mul_nonneg I.b0 I.ua0;omega
theorem SwI.step{A B a b ua ub va vb s q r:Int}(I:SwI A B a b ua ub va vb s)(hb:0<b)(hq:q=a/b)(hr:r=a%b):SwI A B b r ub (ua+q*ub) vb (va+q*vb) (-s)/\r<b/\0<=r/\0<=q*ub/\0<=q*vb:=by
 have e0:=Int.emod_add_mul_ediv a b;have r0:=Int.emod_nonneg a (show b≠0 by omega);have r1:=Int.emod_lt_of_pos a hb;rw[<-hr,<- hq]at e0;rw[<-hr]at r0 r1;have q1:1<=q:=by rw[hq];exact Int.le_ediv_of_mul_le hb (by have:=I.ab;omega)
 have h1:=I.ua0;have h2:=I.ub0;have h3:=I.va0;have h4:=I.vb0;have p1:1*ub<=q*ub:=Int.mul_le_mul_of_nonneg_right q1 h2;have p2:1*vb<=q*vb:=Int.mul_le_mul_of_nonneg_right q1 h4;refine⟨⟨by rcases I.s1 with h|h<;>omega,?_,?_,?_,hb,r0,by omega,h2,by omega,h4,by omega,.inr ⟨by omega,by omega⟩⟩,r1,r0,by omega,by omega⟩
 ·have h:=I.det
  have e:ub*(va+q*vb)-(ua+q*ub)*vb= -(ua*vb-ub*va):=by grind
  rw[e,h]
 ·rw[I.e2];grind
 ·have hr':r=a-b*q:=by omega
  rw[hr',I.e1,I.e2];grind
theorem SwI.fin{A B a ua ub va vb s:Int}(I:SwI A B a 0 ua ub va vb s)(hB:B≠0):LeM A B ua ub va vb s:=by
 obtain⟨h1,h2⟩:=I.mo.resolve_left (fun h=>hB h.symm);have e1:=I.e1;have e2:=I.e2;have a0:=I.a0;exact⟨I.s1,I.det,I.ua0,I.ub0,I.va0,I.vb0,h1,h2,by omega,by omega,by omega⟩
theorem LeI.inv{a b A U V e:Int}(I:LeI a b A 0 U V e)(hc: ∀d:Int,d∣a->d∣b->d∣1):A=1/\Cg b (a*U) 1:=by
 obtain⟨h1,h2⟩:=I.dv A (Int.dvd_refl A) (Int.dvd_zero A);have h3:=Int.le_of_dvd (by omega) (hc A h1 h2);have h4:=I.a0;have h5:A=1:=by omega
 have h6:=I.cu.symm;rw[h5,Int.mul_comm]at h6;exact⟨h5,h6⟩
theorem odd_coprime{a:Int}(h:a%2=1)(n:Nat)(d:Int)(h1:d∣a)(h2:d∣2^n):d∣1:=by
 obtain⟨u,k,hk⟩:=(inv_two h).pow n
 have e:(1:Int)=u*2^n+ -k*a:=by
  have:2^n*u=u*2^n:=Int.mul_comm _ _;have:a*k=k*a:=Int.mul_comm _ _;rw[Int.neg_mul];omega
 rw[e];exact dvd_comb h2 h1
end Go.Big
