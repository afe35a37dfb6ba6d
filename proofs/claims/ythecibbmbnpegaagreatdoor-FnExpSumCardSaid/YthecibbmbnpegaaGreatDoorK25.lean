/-
  Part 25 of the proof of the law FnExpSum: XExL, XWin, XMont. Conditions: those of each statement.
-/
import Derived.Test.YthecibbmbnpegaaGreatDoorK24
import Derived.Laws.Bits64
import Derived.Deep.DeepCutAuto
import Derived.Deep.RegionWith
set_option linter.unusedSimpArgs false
set_option linter.unusedVariables false
set_option maxRecDepth 100000
set_option maxHeartbeats 8000000
namespace Go.Big
theorem vbit{Y a b:Nat}(h:a+b=63):Y*2^a%2^64/2^63=Y/2^b%2:=by
 have e1:(2:Nat)^64=2^63*2:=rfl;rw[e1,Nat.mod_mul_right_div_self];have e2:(2:Nat)^63=2^b*2^a:=by rw[<-Nat.pow_add,Nat.add_comm b a,h]
 rw[e2,Nat.mul_div_mul_right _ _ (Nat.pow_pos (by omega))]
theorem vshl{Y a:Nat}:Y*2^a%2^64*2%2^64=Y*2^(a+1)%2^64:=by
 have e:Y*2^(a+1)=Y*2^a*2:=by rw[Nat.pow_succ,Nat.mul_assoc]
 rw[e];exact Nat.mod_mul_mod _ _ _
theorem and_top_nat{m:Nat}(h:m<2^64):m &&& 2^63=if 2^63<=m then 2^63 else 0:=by
 apply Nat.eq_of_testBit_eq;intro i;rw[Nat.testBit_and,Nat.testBit_two_pow];by_cases hi:63=i
 ·subst hi
  rw[Nat.testBit_eq_decide_div_mod_eq];by_cases hm:2^63<=m
  ·rw[if_pos hm,Nat.testBit_two_pow,decide_eq_true (show m/2^63%2=1 by omega)];simp
  ·rw[if_neg hm,decide_eq_false (show¬m/2^63%2=1 by omega)];simp
 ·rw[decide_eq_false hi,Bool.and_false]
  split
  ·rw[Nat.testBit_two_pow,decide_eq_false hi]
  ·simp
theorem and_top{v:Int}(h0:0<=v)(h1:v<18446744073709551616):bits .and .u64 v 9223372036854775808=if 9223372036854775808<=v then 9223372036854775808 else 0:=by
 obtain⟨m,rfl⟩:=Int.eq_ofNat_of_zero_le h0;have e:(9223372036854775808:Int)=((2^63:Nat):Int):=rfl;rw[e,u64_and_nat _ _ (by omega) (by omega),and_top_nat (by omega)];by_cases h:(2:Nat)^63<=m
 ·rw[if_pos h,if_pos (by omega)]
 ·rw[if_neg h,if_neg (by omega)];rfl
theorem ex_step{M X zn rn:Int}{Y L j v:Nat}(hL:j+2<=L)(hL64:L<=64)(hv:v=Y*2^(65-L+j)%2^64)(hc:Cg M zn (X^(Y/2^(L-1-j))))(hr:(2^63<=v/\rn=zn*zn*X%M)\/(¬2^63<=v/\rn=zn*zn%M)):Cg M rn (X^(Y/2^(L-1-(j+1)))):=by
 have hb:=vbit (Y:=Y) (a:=65-L+j) (b:=L-1-(j+1)) (by omega);rw[<-hv]at hb;have hn:=bits_next (Y:=Y) (t:=L-1-j) (s:=1) (by omega);rw[show L-1-j-1=L-1-(j+1)by omega,Nat.pow_one]at hn;have hlt:v<2^64:=by rw[hv];exact Nat.mod_lt _ (by decide)
 have h2:=hc.mul hc;rw[<-Int.pow_add]at h2;rcases hr with⟨h1,rfl⟩|⟨h1,rfl⟩
 ·have hd:Y/2^(L-1-(j+1))%2=1:=by omega
  rw[hn,hd];have h3:=h2.mul (Cg.refl M X);rw[show 2*(Y/2^(L-1-j))+1=(Y/2^(L-1-j)+Y/2^(L-1-j))+1 by omega,Int.pow_succ];exact(Cg.emod _).trans h3
 ·have hd:Y/2^(L-1-(j+1))%2=0:=by omega
  rw[hn,hd,show 2*(Y/2^(L-1-j))+0=Y/2^(L-1-j)+Y/2^(L-1-j)by omega];exact(Cg.emod _).trans h2
end Go.Big
namespace Go.Proofs.YthecibbmbnpegaaGreatDoor
open Go.Big Go.RowKit
theorem lv_exit{w w3 wr w10:World}{s:Nat}{q1:Option StkSt}{z:Pn}{W R:List Pn}{zs:List Int}{V:Int}(h:Lv s w3 none wr q1 (z::W) R)(f:Fr [] w w3)(hs:w.heap.size<=s)(hn:Nm wr z.A z.b z.o z.c zs)(hd:DG 18446744073709551616 zs)(hz:NZ zs)(hv:val 18446744073709551616 zs=V)(hf:Fc 51 (FreeS q1) wr w10):RetPn V w (.returned (.slice z.A zs.length z.c)) w10:=by
 have ho:=h.ok z (by simp);have hsz:=f.size;have hle:=hn.le;refine⟨⟨z.A,z.b,z.o,z.c,zs⟩,rfl,⟨hn.fc hf (fun i a1 a2 hh=> ?_),hd,hz⟩,hv,Fc.fr_new' (h.fr.trans hf (fun b i hh hlt=> ?_)) f (fun b i hh=>by simp only[StS]at hh;omega),?_⟩
 ·obtain⟨p,rfl,e⟩:=hh
  exact ho.off i a1 (by omega) (.inr (.inl e))
 ·obtain⟨p,rfl,e⟩:=hh
  have:=h.le;simp only[StkLe]at this;omega
 ·by_cases hc:z.c=0
  ·exact .inl hc
  ·refine .inr ?_
   simp only;rcases Nat.lt_or_ge z.b w3.heap.size with hb|hb
   ·have:=h.nw z (by simp) z.o (Nat.le_refl _) (by omega) hb
    simp only[StS]at this;exact absurd this (ho.bs h.st (by omega)).1
   ·omega
def ExRel(s:Nat)(w1:World)(R:List Pn)(X M:Int)(Y L:Nat)(g:Nat)(v0 v15 v17 v19 v20 v21:Value)(wr:World):Prop:=
 ∃(z zz r qq:Pn) (q1:Option StkSt) (l1 l2 l3 j v:Nat),v0=z.v/\v19=zz.r l1/\v20=r.r l2/\v17=qq.r l3/\l1<=zz.c/\l2<=r.c/\l3<=qq.c/\v21= .int .i64 (j:Int)/\v15= .int .u64 (v:Int)/\v=Y*2^(65-L+j)%2^64/\j<=L-1/\g=L-1-j/\
  Lv s w1 none wr q1 [z,zz,r,qq] R/\NZ z.xs/\z.xs.length<=79/\Cg M z.n (X^(Y/2^(L-1-j)))/\(j=0\/z.n<M)
theorem ex_rel{s:Nat}{w1 w9:World}{q9:Option StkSt}{R:List Pn}{X M:Int}{Y L j l3 v:Nat}{zq zr za qq:Pn}(lv:Lv s w1 none w9 q9 [zq,zr,za,qq] R)(nz:NZ zr.xs)(h3:l3<=qq.c)(hl:zr.xs.length<=79)(hc:Cg M zr.n (X^(Y/2^(L-1-(j+1)))))(hlt:zr.n<M)(hv:v=Y*2^(65-L+(j+1))%2^64)(hj:j+1<=L-1):
 ExRel s w1 R X M Y L (L-1-(j+1)) zr.v (.int .u64 (v:Int)) zq.v (qq.r l3) za.v (.int .i64 ((j+1:Nat):Int)) w9:=
 ⟨zr,qq,za,zq,q9,l3,za.xs.length,zq.xs.length,j+1,v,rfl,rfl,rfl,rfl,h3,(lv.ok za (by simp)).nm.le,(lv.ok zq (by simp)).nm.le,rfl,rfl,hv,hj,rfl,lv.perm ((List.Perm.swap zr zq [za,qq]).trans ((List.reverse_perm [zq,za,qq]).symm.cons zr)),nz,hl,hc,.inr hlt⟩
section
variable {w:World}{Ax:Option Addr}{bx ox cx:Nat}{xs:List Int}{Ay:Option Addr}{by_ oy cy:Nat}{ys:List Int}{Am:Option Addr}{bm om cm:Nat}{ms:List Int}
theorem expNN_one(hx:PnE w ⟨Ax,bx,ox,cx,xs⟩)(hy:PnE w ⟨Ay,by_,oy,cy,ys⟩)(hm:PnE w ⟨Am,bm,om,cm,ms⟩)(hd:[(⟨Ax,bx,ox,cx,xs⟩:Pn),⟨Ay,by_,oy,cy,ys⟩,⟨Am,bm,om,cm,ms⟩].Pairwise PDj)(hg:Gl w)
 (hx1:1<val 18446744073709551616 xs)(hx9:xs.length<=79){Y L:Nat}(hyl:ys=[(Y:Int)])(hY2:2<=Y)(hL:IsLen (Y:Int) L)(hL64:L<=64)(hm1:1<val 18446744073709551616 ms)(hm9:ms.length<=79):
 Calls Tryz.prog 39 #[.slice none 0 0,.pointer none,.slice Ax xs.length cx,.slice Ay ys.length cy,.slice Am ms.length cm,.bool false] w (RetPn (val 18446744073709551616 xs^Y%val 18446744073709551616 ms) w):=by
 subst hyl
 have hL2:2<=L/\(2:Int)^(L-1)<=Y/\(Y:Int)<2^L:=by
  rcases hL with⟨h,_⟩|⟨h1,h2,h3⟩
  ·omega
  ·refine⟨?_,h2,h3⟩
   rcases(show L=1\/2<=L by omega)with rfl|h
   ·rw[show(2:Int)^1=2 from rfl]at h3;omega
   ·exact h
 obtain⟨hL2,hLlo,hLhi⟩:=hL2;have HMP:=κ (show 0<val 18446744073709551616 ms by omega);have HX:=κ hx;have HY:=κ hy;have HM:=κ hm;have HG:=κ hg;have HD:=κ hd;have HL:=κ hL;have HLL:=κ hLlo;have HLH:=κ hLhi
 have hxl0:0<xs.length:=by
  rcases Nat.eq_zero_or_pos xs.length with h|h
  ·rw[List.eq_nil_of_length_eq_zero h,val_nil]at hx1;omega
  ·exact h
 have hml0:0<ms.length:=by
  rcases Nat.eq_zero_or_pos ms.length with h|h
  ·rw[List.eq_nil_of_length_eq_zero h,val_nil]at hm1;omega
  ·exact h
 have hx0:xs.length=1->xs.getD 0 0≠1:=fun h e=>by
  have:=val_take_succ' 18446744073709551616 xs 0;rw[List.take_of_length_le (by omega),List.take_zero,val_nil,e]at this;rw[this]at hx1;simp at hx1
 have hm0:ms.length=1->ms.getD 0 0≠1:=fun h e=>by
  have:=val_take_succ' 18446744073709551616 ms 0;rw[List.take_of_length_le (by omega),List.take_zero,val_nil,e]at this;rw[this]at hm1;simp at hm1
 have eX:Ax=some ⟨bx,ox,none⟩:=hx.nm.addr hxl0;have eY:Ay=some ⟨by_,oy,none⟩:=hy.nm.addr (by simp);have eM:Am=some ⟨bm,om,none⟩:=hm.nm.addr hml0;subst eX eY eM;have cX: ∀W,Fr [] w W->W.cell? ⟨bx,ox,none⟩=some (.int .u64 (xs.getD 0 0)):=fun W f=>by have:=(hx.fr0 f).nm.2.2 hxl0 0 hxl0;rwa[Nat.add_zero]at this
 have cY: ∀W,Fr [] w W->W.cell? ⟨by_,oy,none⟩=some (.int .u64 (Y:Int)):=fun W f=>by have:=(hy.fr0 f).nm.2.2 (by simp) 0 (by simp);rwa[Nat.add_zero]at this
 have cM: ∀W,Fr [] w W->W.cell? ⟨bm,om,none⟩=some (.int .u64 (ms.getD 0 0)):=fun W f=>by have:=(hm.fr0 f).nm.2.2 hml0 0 hml0;rwa[Nat.add_zero]at this
 have CX:=κ cX;have CY:=κ cY;have CM:=κ cM;obtain⟨x0,hx0e⟩: ∃x0,x0=xs.getD 0 0:=⟨_,rfl⟩;obtain⟨m0,hm0e⟩: ∃m0,m0=ms.getD 0 0:=⟨_,rfl⟩;rw[<-hx0e]at CX hx0;rw[<-hm0e]at CM hm0;have hmx:cx<=maxLen:=hx.nm.max;have hmy:cy<=maxLen:=hy.nm.max;have hmz:cm<=maxLen:=hm.nm.max;have hnc:xs.length<=cx:=hx.nm.le;have hyc:1<=cy:=hy.nm.le;have hmc:ms.length<=cm:=hm.nm.le;unfold maxLen at hmx hmy hmz;simp only[List.length_singleton];have hn0:((xs.length:Int)==0)=false:=by rw[beq_eq_false_iff_ne];omega
 have hY1:((Y:Int)==1)=false:=by rw[beq_eq_false_iff_ne];omega
 have hmz0:((ms.length:Int) !=0)=true:=by rw[bne_iff_ne];omega
 have T1:True:=trivial;clear hx hy hm hg hd hL hLlo hLhi cX cY cM hx0e hm0e hx1 hm1;go_enter_defers Tryz.func39,Tryz.ntmps39;refine wp_mono ?_ bodyPostN_D
 go_upto_if 31 with(first
  |(go_at_call 37;clear T1;refine(alias_nil _ _ _ _).mono ?_;rintro e w1 ⟨rfl,f1⟩;have F1:=κ f1;clear f1)
  |(go_at_call 37;refine(alias_nil _ _ _ _).mono ?_;rintro e w2 ⟨rfl,f2⟩;have F2:=κ (F1.out.t f2);clear f2));have cx2:=CX.out _ F2.out;have cy2:=CY.out _ F2.out;have cm2:=CM.out _ F2.out;go_upto_region 3 with fail;go_cut [40]from 32 to 40 (fun v wx=>v= .bool false/\w2=wx)
 case first=>
  by_cases h1:ms.length=1
  ·have h1b:((ms.length:Int)==1)=true:=by rw[beq_iff_eq];omega
   have h2b:(m0==1)=false:=by rw[beq_eq_false_iff_ne];exact hm0 h1
   have h3:(0:Int)<(ms.length:Int):=by omega
   clear h1 hm0 hx0;go_wp2_with fail;go_meet;exact⟨rfl,rfl⟩
  ·have h1b:((ms.length:Int)==1)=false:=by rw[beq_eq_false_iff_ne];omega
   clear h1 hm0 hx0;go_wp2_with fail;go_meet;exact⟨rfl,rfl⟩
 case rest=>
  obtain⟨rfl,rfl⟩:=hcut;go_upto_region 9 with fail;go_cut [61]from 53 to 61 (fun v wx=>v= .bool false/\w2=wx)
  case first=>
   by_cases h1:xs.length=1
   ·have h1b:((xs.length:Int)==1)=true:=by rw[beq_iff_eq];omega
    have h2b:(x0==1)=false:=by rw[beq_eq_false_iff_ne];exact hx0 h1
    have h3:(0:Int)<(xs.length:Int):=by omega
    clear h1 hm0 hx0;go_wp2_with fail;go_meet;exact⟨rfl,rfl⟩
   ·have h1b:((xs.length:Int)==1)=false:=by rw[beq_eq_false_iff_ne];omega
    clear h1 hm0 hx0;go_wp2_with fail;go_meet;exact⟨rfl,rfl⟩
  case rest=>
   obtain⟨rfl,rfl⟩:=hcut;clear hm0 hx0;go_upto_region 16 with(go_at_call 31;refine(getStackQ_any _).mono ?_;rintro e w3 ⟨s,rfl,hst,f3,hs⟩;have HST:=κ hst;have HS:=κ hs;have F3:=κ f3;clear hst hs f3)
   have L0:=κ (lv_enter HST.out (F2.out.t F3.out) (Nat.le_trans F2.out.size HS.out) HG.out (fun p hp=>by
    simp only[List.mem_cons,List.not_mem_nil,or_false]at hp;rcases hp with rfl|rfl|rfl
    ·exact HX.out
    ·exact HY.out
    ·exact HM.out) HD.out);have CMK:=κ (fun W=>make_any ms.length W (by omega) (by omega));have hcy3:w3.cell? ⟨by_,oy,none⟩=some (.int .u64 (Y:Int)):=CY.out _ (F2.out.t F3.out);obtain⟨a,ha⟩: ∃a,a=65-L:=⟨_,rfl⟩;have haI:(64:Int)-(L:Int)+1=(a:Int):=by omega
   have ha1:1<=a/\a<=63:=by omega
   obtain⟨ha1,ha63⟩:=ha1;have hwa:IntKind.u64.wrap (a:Int)=(a:Int):=by rw[IntKind.wrap_u64];omega
   have hwa2:IntKind.i64.wrap (a:Int)=(a:Int):=by rw[IntKind.wrap_i64];omega
   obtain⟨k,hk⟩: ∃k,k=L-1:=⟨_,rfl⟩;have hwl:(64:Int)-(a:Int)=(k:Int):=by omega
   have HK:=κ hk;obtain⟨P,hP⟩: ∃P:Int,P=2^a:=⟨_,rfl⟩;have hpow:(2:Int)^a=P:=hP.symm;have hmin:min a 64=a:=by omega
   have hY64:(Y:Int)<18446744073709551616:=by
    have h1:=HLH.out;have h2:=pow_le_pow_ (B:=2) (by omega) hL64;rw[show(2:Int)^64=18446744073709551616 from rfl]at h2;omega
   obtain⟨v0,hv0⟩: ∃v0,v0=Y*2^a%2^64:=⟨_,rfl⟩
   have hwv:IntKind.u64.wrap ((Y:Int)*P)=(v0:Int):=by
    rw[IntKind.wrap_u64,hP,hv0];simp
   have HV0:=κ hv0;have HA:=κ ha;clear hP ha hk hv0
   go_wp2_with (first
    |(go_at_call 42;refine(CMK.out _).mono ?_;rintro e w4 ⟨bz,cz,rfl,hc1,hc2,row,hz,f4⟩;have L1:=κ (lv_made L0.out f4 hz row hc1 hc2 (by omega));have F4:=κ (F3.out.t f4);clear row f4)
    |(go_at_call 41;have CS:=setL (l:=ms.length) (x:=⟨some ⟨bx,ox,none⟩,bx,ox,cx,xs⟩) L1.out (by simp) HX.out.nz (by simp only;omega) hc1;refine CS.mono ?_;clear CS;rintro e w5 ⟨z1,q5,rfl,l5,nz5,v5,ll5,le5,pl5⟩;have L5:=κ l5;have NZ5:=κ nz5;have V5:=κ v5;have cy5:w5.cell? ⟨by_,oy,none⟩=some (.int .u64 (Y:Int)):=(by have:=(l5.ok ⟨some ⟨by_,oy,none⟩,by_,oy,cy,[(Y:Int)]⟩ (by simp)).nm.2.2 (by simp) 0 (by simp);rwa[Nat.add_zero]at this);clear l5 nz5 v5 ll5 le5 pl5)
    |(go_at_call 69;refine(nlzD_any (Y:Int) L _ (by omega) hY64 HL.out).mono ?_;rintro e w6 ⟨rfl,rfl⟩));have hlp:=κ (show∃e,e=k from⟨_,rfl⟩);go_loopg [0,15,17,19,20,21] k (ExRel s w3 [⟨some ⟨bx,ox,none⟩,bx,ox,cx,xs⟩,⟨some ⟨by_,oy,none⟩,by_,oy,cy,[(Y:Int)]⟩,⟨some ⟨bm,om,none⟩,bm,om,cm,ms⟩] (val 18446744073709551616 xs) (val 18446744073709551616 ms) Y L)
   case atStart=>
    have hk:=HK.out;have hV:=HV0.out;have hA:=HA.out;have hl5:=L5.out;have hp2:(2:Nat)^(L-1)<=Y:=by have:=HLL.out;rw[pow_cast]at this;omega
    have hp3:Y<2^L:=by have:=HLH.out;rw[pow_cast]at this;omega
    have hlp:Lv s w3 none w5 q5 [z1,nilP w5.heap.size,nilP w5.heap.size,nilP w5.heap.size] [⟨some ⟨bx,ox,none⟩,bx,ox,cx,xs⟩,⟨some ⟨by_,oy,none⟩,by_,oy,cy,[(Y:Int)]⟩,⟨some ⟨bm,om,none⟩,bm,om,cm,ms⟩]:=
     hl5.nil.nil.nil.perm (List.perm_append_comm (l₁:=[nilP w5.heap.size,nilP w5.heap.size,nilP w5.heap.size]) (l₂:=[z1]));refine⟨z1,nilP w5.heap.size,nilP w5.heap.size,nilP w5.heap.size,q5,0,0,0,0,v0,rfl,rfl,rfl,rfl,Nat.zero_le _,Nat.zero_le _,Nat.zero_le _,rfl,rfl,by rw[hV,hA,Nat.add_zero],Nat.zero_le _,by omega,hlp,NZ5.out,?_,?_,.inl rfl⟩
    ·have h1:val 18446744073709551616 z1.xs=val 18446744073709551616 xs:=V5.out
     have h2:z1.xs.length<=xs.length:=by
      rcases Nat.lt_or_ge xs.length z1.xs.length with h|h
      ·have h3:val 18446744073709551616 xs<val 18446744073709551616 z1.xs:=lt_of_shorter (by omega) HX.out.dg (hl5.ok z1 (by simp)).dg NZ5.out h
       omega
      ·exact h
     omega
    ·have e:Y/2^(L-1-0)=1:=by
      rw[Nat.sub_zero];have h4:2^L=2^(L-1)*2:=by rw[<-Nat.pow_succ];congr 1;omega
      exact Nat.div_eq_of_lt_le (by omega) (by omega)
     rw[e,V5.out];exact⟨0,by unfold Pn.n;simp only;rw[Int.pow_succ,Int.pow_zero];omega⟩
   case round=>
    obtain⟨z,zz,r,qq,q1,l1,l2,l3,j,v,rfl,rfl,rfl,rfl,h1,h2,h3,rfl,rfl,hv,hj,rfl,hl,hnz,hzl,hcg,hlt⟩:=hrel;have HLv:=κ hl;have HNZ:=κ hnz;have HCG:=κ hcg;have HV:=κ hv;have hkk:=HK.out;rw[<-hkk]at hj;have HLT:=κ hlt;clear hkk hv hlt hcg hl hnz;by_cases hjk:j<k
    ·have hjI:(j:Int)<(k:Int):=by omega
     have CSQ:=κ (sqrL (l:=l1) (x:=z) (HLv.out.perm (List.Perm.swap zz z [r,qq])) (by simp) (by omega) h1);obtain⟨hi,hhi⟩: ∃hi,hi=decide ((9223372036854775808:Int)<=(v:Int)):=⟨_,rfl⟩;go_upto_if 173 with(go_at_call 70;refine(CSQ.out).mono ?_;rintro e w7 ⟨z2,q2,rfl,lv2,nz2,v2,ll2,le2,pl2⟩;have L2:=κ lv2;have NZ2:=κ nz2;have V2:=κ v2;clear lv2 nz2 v2 ll2 le2 pl2);have hv64:(v:Int)<18446744073709551616:=by have:=HV.out;omega
     have hand:=and_top (v:=(v:Int)) (by omega) hv64;have HM3:=κ (show ms.length<=800 by omega);have ZL2:=κ (show z2.xs.length<=210 by have:=len_mul (HLv.out.ok z (by simp)).dg (HLv.out.ok z (by simp)).dg (L2.out.ok z2 (by simp)).dg NZ2.out V2.out;omega);have hv2: ∃v2,v2=v*2%2^64:=⟨_,rfl⟩;obtain⟨v2,hv2⟩:=hv2;have HV2:=κ hv2;have hwv2:IntKind.u64.wrap ((v:Int)*2)=(v2:Int):=by rw[IntKind.wrap_u64,hv2];simp
     clear hv2;by_cases hbit:(9223372036854775808:Int)<=(v:Int)
     ·rw[if_pos hbit]at hand
      have hne:(bits .and .u64 (v:Int) 9223372036854775808 !=0)=true:=by rw[hand];rfl
      have CMU:=κ (mulL (l:=z.xs.length) (z:=z) (x:=z2) (y:=⟨some ⟨bx,ox,none⟩,bx,ox,cx,xs⟩) (L2.out.perm (List.Perm.swap z z2 [r,qq])) (by simp) (by simp) (by have:=ZL2.out;omega) (by simp only;omega) (HLv.out.ok z (by simp)).nm.le);simp only[hne];have HBIT:=κ hbit;clear hand hne hbit;go_upto_region 43 with(go_at_call 33;refine(CMU.out).mono ?_;rintro e w8 ⟨z3,q3,rfl,lv3,nz3,v3,ll3,le3,pl3⟩;have L3:=κ lv3;have NZ3:=κ nz3;have V3:=κ v3;clear lv3 nz3 v3 ll3 le3 pl3);have ZL3:=κ (show z3.xs.length<=400 by have:=len_mul (L2.out.ok z2 (by simp)).dg (HX.out).dg (L3.out.ok z3 (by simp)).dg NZ3.out V3.out;have h2:=ZL2.out;simp only at this;omega);have CD:=κ (divL (z:=z2) (y:=r) (u:=z3) (v:=⟨some ⟨bm,om,none⟩,bm,om,cm,ms⟩) (l:=z2.xs.length) (ly:=l2) (L3.out.perm ((List.perm_append_comm (l₁:=[z3]) (l₂:=[z2,r])).append_right [qq])) (by simp) (by simp) NZ3.out HM.out.nz (by have:=ZL3.out;omega) (by simp only;omega) (by simp only;omega) (L3.out.ok z2 (by simp)).nm.le h2);go_wp2_with (go_at_call 32;refine(CD.out).mono ?_;rintro e w9 ⟨zq,zr,q9,rfl,lv9,nzq,nzr,vq,vr,ll9⟩;have L9:=κ lv9;have NZ9:=κ nzr;have V9:=κ vr;clear lv9 nzq nzr vq vr ll9);go_roundg (L-1-(j+1));case measure=>have:=HK.out;omega
      case rel=>
       have hk:=HK.out;have hM:0<val 18446744073709551616 ms:=HMP.out;have hv9:zr.n=z3.n%val 18446744073709551616 ms:=V9.out;have hlt:zr.n<val 18446744073709551616 ms:=by rw[hv9];exact Int.emod_lt_of_pos _ hM
       have hvv:v2=Y*2^(65-L+(j+1))%2^64:=by rw[HV2.out,HV.out];exact vshl
       have hb:=HBIT.out;have h3v:z3.n=z2.n*val 18446744073709551616 xs:=V3.out;have h2v:z2.n=z.n*z.n:=V2.out;exact ex_rel L9.out NZ9.out h3 (by have:=len_sm (L9.out.ok zr (by simp)).dg HM.out.dg NZ9.out (Int.le_of_lt hlt);simp only at this;omega) (ex_step (by omega) hL64 HV.out HCG.out (.inl ⟨by omega,by rw[hv9,h3v,h2v]⟩)) hlt hvv (by omega)
     ·rw[if_neg hbit]at hand
      have hne:(bits .and .u64 (v:Int) 9223372036854775808 !=0)=false:=by rw[hand];rfl
      simp only[hne];have HBIT:=κ hbit;clear hand hne hbit;go_upto_region 43 with fail;have CD:=κ (divL (z:=z) (y:=r) (u:=z2) (v:=⟨some ⟨bm,om,none⟩,bm,om,cm,ms⟩) (l:=z.xs.length) (ly:=l2) (L2.out.perm ((List.perm_append_comm (l₁:=[z2]) (l₂:=[z,r])).append_right [qq])) (by simp) (by simp) NZ2.out HM.out.nz (by have:=ZL2.out;omega) (by simp only;omega) (by simp only;omega) (L2.out.ok z (by simp)).nm.le h2);go_wp2_with (go_at_call 32;refine(CD.out).mono ?_;rintro e w9 ⟨zq,zr,q9,rfl,lv9,nzq,nzr,vq,vr,ll9⟩;have L9:=κ lv9;have NZ9:=κ nzr;have V9:=κ vr;clear lv9 nzq nzr vq vr ll9);go_roundg (L-1-(j+1));case measure=>have:=HK.out;omega
      case rel=>
       have hk:=HK.out;have hM:0<val 18446744073709551616 ms:=HMP.out;have hv9:zr.n=z2.n%val 18446744073709551616 ms:=V9.out;have hlt:zr.n<val 18446744073709551616 ms:=by rw[hv9];exact Int.emod_lt_of_pos _ hM
       have hvv:v2=Y*2^(65-L+(j+1))%2^64:=by rw[HV2.out,HV.out];exact vshl
       have hb:=HBIT.out;have h2v:z2.n=z.n*z.n:=V2.out;exact ex_rel L9.out NZ9.out h3 (by have:=len_sm (L9.out.ok zr (by simp)).dg HM.out.dg NZ9.out (Int.le_of_lt hlt);simp only at this;omega) (ex_step (by omega) hL64 HV.out HCG.out (.inr ⟨by omega,by rw[hv9,h2v]⟩)) hlt hvv (by omega)
    ·have hjI: ¬(j:Int)<(k:Int):=by omega
     go_wp2_with fail;go_loopg [0,22] 0 (fun g v0 v22 wx=>wr=wx/\g=0/\v0=z.v/\v22= .int .i64 (-1));case atStart=>exact⟨rfl,rfl,rfl,rfl⟩
     case round=>
      obtain⟨rfl,rfl,rfl,rfl⟩:=hrel;have hk:=HK.out;have hjk':j=L-1:=by omega
      have hzn:=(HLv.out.ok z (by simp));have CN:Calls Tryz.prog 34 #[z.v] wr _:=normN_any z.A z.b z.o z.c z.xs wr hzn.nm hzn.dg;have CN:=κ CN
      have hfin:z.n=val 18446744073709551616 xs^Y%val 18446744073709551616 ms:=by
       have hc:=HCG.out;rw[hjk',show L-1-(L-1)=0 by omega,Nat.pow_zero,Nat.div_one]at hc;exact hc.emod_eq (val_nonneg (by omega) hzn.dg) (by rcases HLT.out with h|h;omega;exact h)
      have HFIN:=κ hfin;clear hk hjk' hzn hfin;go_wp2_with (go_at_call 34;refine(CN.out).mono ?_;rintro e w9 ⟨⟨zs,rfl,g1,g2,g3,g4,g5⟩,rfl⟩;have G1:=κ g1;have G2:=κ g2;have G3:=κ g3;have G4:=κ g4;clear g1 g2 g3 g4 g5);show Leaves _ _ _ _ _ _ _;refine leaves_cons (f:=48) (args:= #[.pointer (some ⟨s,0,none⟩)]) (by simp) (by simp[go_sem]) ?_;refine(free_deferred s q1 .returning _ HLv.out.st).mono ?_;rintro e u' w10 ⟨rfl,rfl,hf10⟩;refine⟨_,results_tmp rfl _ _ _,?_⟩;exact lv_exit HLv.out (F2.out.t F3.out) (Nat.le_trans F2.out.size HS.out) G1.out G2.out G3.out (G4.out.trans HFIN.out) hf10
end
end Go.Proofs.YthecibbmbnpegaaGreatDoor
namespace Go.Big
theorem win_dig{E i j:Nat}(hj:j<=15):(E/2^(64*i)%2^64*2^(4*j)%2^64)/2^60=E/2^(64*i+60-4*j)%16:=by
 obtain⟨b,hb⟩: ∃b,4*j+b=60:=⟨60-4*j,by omega⟩;generalize 4*j=a at*;have e1:(2:Nat)^64=2^60*16:=rfl;rw[show 64*i+60-a=64*i+b by omega,Nat.pow_add,<- Nat.div_div_eq_div_mul];generalize E/2^(64*i)=A;have e3:(2:Nat)^60=2^b*2^a:=by rw[<-Nat.pow_add,Nat.add_comm b a,hb]
 have e2:A%2^64*2^a%2^64=A*2^a%2^64:=Nat.mod_mul_mod _ _ _;rw[e2,e1,Nat.mod_mul_right_div_self,e3,Nat.mul_div_mul_right _ _ (Nat.pow_pos (by omega))]
theorem win_next{E i j:Nat}(hj:j<=15):E/2^(64*i+60-4*j)=16*(E/2^(64*i+64-4*j))+E/2^(64*i+60-4*j)%16:=by
 have e:E/2^(64*i+64-4*j)=E/2^(64*i+60-4*j)/16:=by
  rw[Nat.div_div_eq_div_mul,show(16:Nat)=2^4 from rfl,<- Nat.pow_add];congr 2;omega
 rw[e];omega
theorem win_shl{A j:Nat}:A*2^(4*j)%2^64*16%2^64=A*2^(4*(j+1))%2^64:=by
 have e:A*2^(4*(j+1))=A*2^(4*j)*16:=by rw[show 4*(j+1)=4*j+4 by omega,Nat.pow_add,<- Nat.mul_assoc]
 rw[e];exact Nat.mod_mul_mod _ _ _
theorem cut_word{Y L i:Nat}(h:64*(i+1)<=L):Y%2^L/2^(64*i)%2^64=Y/2^(64*i)%2^64:=by
 apply Nat.eq_of_testBit_eq;intro k;rw[Nat.testBit_mod_two_pow,Nat.testBit_mod_two_pow,Nat.testBit_div_two_pow,Nat.testBit_div_two_pow,Nat.testBit_mod_two_pow];by_cases hk:k<64
 ·rw[decide_eq_true (show k+64*i<L by omega),Bool.true_and]
 ·rw[decide_eq_false hk];rfl
theorem cut_top{Y L i b:Nat}(h:L=64*i+b)(_hb:b<=64):Y%2^L/2^(64*i)%2^64=Y/2^(64*i)%2^64%2^b:=by
 apply Nat.eq_of_testBit_eq;intro k;rw[Nat.testBit_mod_two_pow,Nat.testBit_mod_two_pow,Nat.testBit_mod_two_pow,Nat.testBit_div_two_pow,Nat.testBit_div_two_pow,Nat.testBit_mod_two_pow];by_cases hk:k<b
 ·rw[decide_eq_true (show k+64*i<L by omega),decide_eq_true hk,Bool.true_and,Bool.true_and]
 ·rw[decide_eq_false hk,decide_eq_false (show¬k+64*i<L by omega),Bool.false_and,Bool.and_false,Bool.false_and]
theorem word_at{ys:List Int}(hd:DG 18446744073709551616 ys){i Y:Nat}(hi:i<ys.length)(hY:val 18446744073709551616 ys=(Y:Int)):ys.getD i 0=((Y/2^(64*i)%2^64:Nat):Int):=by
 have h1:=val_split 18446744073709551616 ys i (by omega);have h2:=val_lt (B:=18446744073709551616) (by omega) (hd.take i);have h3:=val_nonneg (B:=18446744073709551616) (by omega) (hd.take i);rw[List.length_take,Nat.min_eq_left (by omega)]at h2;have h4:ys.drop i=ys.getD i 0::ys.drop (i+1):=by rw[getD_in hi];exact List.drop_eq_getElem_cons hi
 have h5:=hd.getD (by omega) i;rw[h4,val_cons,hY]at h1;have hP:=pow_pos_ (B:=18446744073709551616) (by omega) i
 have e:((2^(64*i):Nat):Int)=18446744073709551616^i:=by
  rw[Nat.pow_mul,Int.natCast_pow,show((2^64:Nat):Int)=18446744073709551616 from rfl]
 have h6:(Y:Int)/18446744073709551616^i=ys.getD i 0+18446744073709551616*val 18446744073709551616 (ys.drop (i+1)):=by
  rw[h1,Int.add_mul_ediv_left _ _ (by omega),Int.ediv_eq_zero_of_lt h3 h2,Int.zero_add]
 rw[Int.natCast_emod,Int.natCast_ediv,e,h6];rw[show((2^64:Nat):Int)=18446744073709551616 from rfl,Int.add_mul_emod_self_left,Int.emod_eq_of_lt h5.1 h5.2]
theorem newt_step{m k t:Int}{i:Nat}(hd:(2:Int)^(min i 64)∣t)(h:(18446744073709551616:Int)∣m*k-1+t*t):
 (2:Int)^(min (i*2) 64)∣t*t%18446744073709551616/\(18446744073709551616:Int)∣m*(k*(t*t%18446744073709551616+1)%18446744073709551616)-1+t*t%18446744073709551616*(t*t%18446744073709551616):=by
 constructor
 ·have h1:(2:Int)^(min (i*2) 64)∣t*t:=by
   refine Int.dvd_trans ?_ (Int.mul_dvd_mul hd hd);rw[<-Int.pow_add];exact⟨2^(min i 64+min i 64-min (i*2) 64),by rw[<-Int.pow_add];congr 1;omega⟩
  have h2:(2:Int)^(min (i*2) 64)∣18446744073709551616:=⟨2^(64-min (i*2) 64),by rw[<-Int.pow_add,show min (i*2) 64+(64-min (i*2) 64)=64 by omega];rfl⟩;rw[Int.emod_def];exact Int.dvd_sub h1 (Int.dvd_mul_of_dvd_left h2)
 ·generalize hW:(18446744073709551616:Int)=W at*
  have c1:Cg W (t*t%W) (t*t):=Cg.emod _;have c2:Cg W (k*(t*t%W+1)%W) (k*(t*t+1)):=(Cg.emod _).trans ((Cg.refl W k).mul (c1.add (Cg.refl W 1)));have c3:=(((Cg.refl W m).mul c2).sub (Cg.refl W 1)).add (c1.mul c1)
  have c4:Cg W (m*(k*(t*t+1))-1+t*t*(t*t)) 0:=by
   obtain⟨c,hc⟩:=h;exact⟨c*(t*t+1),by grind⟩
  have c5:=c3.trans c4;unfold Cg at c5;rwa[Int.sub_zero]at c5
theorem newt_start{m:Int}(hm:m%2=1):(2:Int)^(min 1 64)∣m-1/\(18446744073709551616:Int)∣m*((2-m)%18446744073709551616)-1+(m-1)*(m-1):=by
 constructor
 ·exact⟨(m-1)/2,by rw[show(2:Int)^(min 1 64)=2 from rfl];omega⟩
 ·generalize hW:(18446744073709551616:Int)=W at*
  have c1:Cg W ((2-m)%W) (2-m):=Cg.emod _;have c2:=(((Cg.refl W m).mul c1).sub (Cg.refl W 1)).add (Cg.refl W ((m-1)*(m-1)));have e:m*(2-m)-1+(m-1)*(m-1)=0:=by grind
  rw[e]at c2;unfold Cg at c2;rwa[Int.sub_zero]at c2
theorem newt_end{m k t:Int}{i:Nat}(hi:64<=i)(hd:(2:Int)^(min i 64)∣t)(h:(18446744073709551616:Int)∣m*k-1+t*t):(18446744073709551616:Int)∣m*(-k%18446744073709551616)+1:=by
 rw[Nat.min_eq_right hi,show(2:Int)^64=18446744073709551616 from rfl]at hd;generalize hW:(18446744073709551616:Int)=W at*;have h1:Cg W (m*k-1+t*t) 0:=by unfold Cg;rwa[Int.sub_zero]
 have h2:Cg W (t*t) 0:=by unfold Cg;rw[Int.sub_zero];exact Int.dvd_mul_of_dvd_left hd
 have c1:Cg W (-k%W) (-k):=Cg.emod _;have c2:=((Cg.refl W m).mul c1).add (Cg.refl W 1);have c3:=((Cg.refl W 0).sub h1).add h2;have e:0-(m*k-1+t*t)+t*t=m* -k+1:=by grind
 rw[e]at c3;have c4:=c2.trans c3;unfold Cg at c4;simpa using c4
theorem top_words{zs:List Int}{k:Nat}(hd:DG 18446744073709551616 zs)(hz:NZ zs)(hv:val 18446744073709551616 zs=18446744073709551616^k):zs=List.replicate k 0++[1]:=
 eq_of_val hd ((DG.rep (by omega) k).append (DG.cons (by omega) (by omega) (DG.nil _))) hz (.inr (by simp)) (by omega) (by rw[hv,val_append,val_rep,List.length_replicate];simp[val_cons,val_nil])
theorem pow_words(n:Nat):(2:Int)^(n*64)=18446744073709551616^n:=by
 rw[Nat.mul_comm,Int.pow_mul];rfl
theorem mont_step{W Wn Wn1 A A1 A2 B X Y Y' M c c2 c3 cy nc d t T T' U Wi:Int}(h1:A1+Wn*c2=A+X*d)(h2:A2+Wn*c3=A1+M*t)(h3:cy+W*nc=c+c2+c3)(h4:A2=W*B)(hT:T=A+Wn*c)(hW:Wn=W*Wn1)(hT':T'=B+Wn1*cy+Wn*nc)
 (h:T*Wi=X*Y+M*U)(hY:Y'=Y+Wi*d):T'*(Wi*W)=X*Y'+M*(U+Wi*t):=by
 have e:W*T'=T+X*d+M*t:=by
  rw[hT',hT];have:W*(B+Wn1*cy+Wn*nc)=W*B+(W*Wn1)*(cy+W*nc):=by rw[hW];grind
  rw[this,<- h4,<- hW,h3];grind
 have e2:T'*(Wi*W)=Wi*(W*T'):=by grind
 rw[e2,e,hY];have e3:Wi*(T+X*d+M*t)=T*Wi+X*(Wi*d)+M*(Wi*t):=by grind
 rw[e3,h];grind
theorem mont_bound{Wn X Y M U T:Int}(hX:0<=X)(hX1:X<Wn)(hY:0<=Y)(hY1:Y<Wn)(hM:0<=M)(hU:U<Wn)(h:T*Wn=X*Y+M*U):T<Wn+M\/Wn<=0:=by
 by_cases h0:Wn<=0
 ·exact .inr h0
 ·left
  have e1:X*Y<=(Wn-1)*(Wn-1):=Int.mul_le_mul (by omega) (by omega) hY (by omega);have e2:M*U<=M*(Wn-1):=Int.mul_le_mul_of_nonneg_left (by omega) hM
  have e3:T*Wn<(Wn+M)*Wn:=by
   rw[h];have:(Wn-1)*(Wn-1)=Wn*Wn-2*Wn+1:=by grind
   have:M*(Wn-1)=M*Wn-M:=by grind
   have:(Wn+M)*Wn=Wn*Wn+M*Wn:=by grind
   omega
  exact Int.lt_of_mul_lt_mul_right e3 (by omega)
theorem window_next{Z:List Int}{i n:Nat}{cy:Int}(h:n+i<Z.length)(hn:0<n):((Z.set (n+i) cy).drop (i+1)).take n=((Z.drop i).take n).drop 1++[cy]:=by
 apply List.ext_getElem
 ·simp;omega
 ·intro j h1 h2
  simp only[List.getElem_take,List.getElem_drop,List.getElem_set,List.getElem_append,List.length_drop,List.length_take];simp only[List.length_take,List.length_drop,List.length_set]at h1;by_cases hj:j+1<n
  ·rw[if_neg (by omega),dif_pos (by omega)]
   congr 1;omega
  ·have:j=n-1:=by omega
   rw[if_pos (by omega),dif_neg (by omega)];simp
end Go.Big
namespace Go.Proofs.YthecibbmbnpegaaGreatDoor
open Go.Big Go.RowKit
theorem mo_carry{c c2 c3 cx cy:Int}(hc:c=0\/c=1)(h20:0<=c2)(h21:c2<18446744073709551616)(h30:0<=c3)(h31:c3<18446744073709551616)(hx:cx=(c+c2)%18446744073709551616)(hy:cy=(cx+c3)%18446744073709551616):
 0<=cy/\cy<18446744073709551616/\((cx<c2/\cy+18446744073709551616*1=c+c2+c3)\/(¬cx<c2/\cy<c3/\cy+18446744073709551616*1=c+c2+c3)\/(¬cx<c2/\ ¬cy<c3/\cy+18446744073709551616*0=c+c2+c3)):=by
 rcases hc with rfl|rfl<;>omega
theorem mo_low{A1 A2 M t k m0 s0 Wn Wn1 c3 a0 B1 Bm:Int}(h2:A2+Wn*c3=A1+M*t)(hW:Wn=18446744073709551616*Wn1)(hA1:A1=a0+18446744073709551616*B1)(hM:M=m0+18446744073709551616*Bm)(ht:t=(a0*k)%18446744073709551616)(hk:(18446744073709551616:Int)∣m0*k+1)(hs:s0=A2%18446744073709551616):s0=0:=by
 obtain⟨p,hp⟩:=hk;have e:=Int.emod_add_mul_ediv (a0*k) 18446744073709551616;rw[<-ht]at e;generalize(a0*k)/18446744073709551616=q at e;have ht1:t=a0*k-18446744073709551616*q:=by omega
 have:A2=18446744073709551616*(B1+Bm*t-m0*q+a0*p-Wn1*c3):=by
  have e1:A2=A1+M*t-Wn*c3:=by omega
  rw[e1,hW,hA1,hM];have e2:(m0+18446744073709551616*Bm)*t=m0*t+18446744073709551616*(Bm*t):=by grind
  have e3:m0*t=a0*(m0*k)-18446744073709551616*(m0*q):=by rw[ht1];grind
  have e4:m0*k=18446744073709551616*p-1:=by omega
  rw[e2,e3,e4];grind
 rw[hs,this];exact Int.mul_emod_right _ _
theorem val_head{zs:List Int}(h:0<zs.length):val 18446744073709551616 zs=zs.getD 0 0+18446744073709551616*val 18446744073709551616 (zs.drop 1):=by
 cases zs with
 |nil=>simp at h
 |cons z zs=>simp[val_cons]
end Go.Proofs.YthecibbmbnpegaaGreatDoor
