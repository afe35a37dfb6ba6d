/-
  Part 42 of the proof of the law FnExpSum: XLl, XLg. Conditions: those of each statement.
-/
import Derived.Test.YthecibbmbnpegaaGreatDoorK41
import Derived.Laws.Bits64
import Derived.Deep.DeepCutAuto
import Derived.Deep.RegionWith
set_option linter.unusedSimpArgs false
set_option linter.unusedVariables false
set_option maxRecDepth 100000
set_option maxHeartbeats 200000
namespace Go.Proofs.YthecibbmbnpegaaGreatDoor
open Go.Big Go.RowKit
attribute [local go_sem ↓] Go.wp_at_zero Go.wp_at_succ
section
variable {w0 w w':World}{W:List In}{x y z q r:In}{V:Int}
theorem Li.pos0(h:Li w0 w (z::W))(hv:0<=z.v): ∃z',z'.p=z.p/\z'.v=z.v/\Li w0 (w.setCell ⟨z.p,0,none⟩ (.bool false)) (z'::W):=by
 have ho:=h.ok z (by simp);have h2:=val_nonneg (B:=18446744073709551616) (by omega) ho.dg;refine⟨⟨z.p,false,z.A,z.b,z.o,z.c,z.xs⟩,rfl,?_,h.put ((ho.ib.fc_set (a:=⟨z.p,0,none⟩) rfl _).mono (fun b i hh _=> .inl hh)) ⟨ho.ib.set0 false,ho.nm.fc (ho.ib.fc_set (a:=⟨z.p,0,none⟩) rfl _) (ho.nm.off_int ho.ib),ho.dg,ho.nz⟩ rfl (.inr (.inl ⟨rfl,rfl⟩))⟩;unfold In.v sg at*;simp only[Bool.false_eq_true,if_false];split at hv
 ·rename_i hn;rw[hn];simp only[if_true];omega
 ·rename_i hn;simp only[hn];rfl
theorem absO(h:Li w0 w (z::W))(hx:InOk w0 x)(hx9:x.xs.length<=1000)(hx0:0<=x.v):
 Calls Tryz.prog 119 #[z.pt,x.pt] w fun e w'=>e= .returned z.pt/\PutI w0 W z x.v w':=by
 have C:=κ (setO h hx hx9);obtain⟨zp,hzp⟩: ∃zp,zp=z.p:=⟨_,rfl⟩;obtain⟨xp,hxp⟩: ∃xp,xp=x.p:=⟨_,rfl⟩;have HZP:=κ hzp;have H0:=κ hx0;unfold In.pt at C ⊢
 rw[<-hzp,<- hxp]at C;rw[<-hzp,<- hxp];clear h hx hx9 hzp hxp hx0;go_enter Tryz.func119,Tryz.ntmps119;go_wp2_with (go_at_call 38;refine(C.out).mono ?_;rintro e w1 ⟨rfl,z1,hp1,hv1,hl1⟩;have hp1':=hp1.trans HZP.out.symm;have HL:=κ hl1;have HV:=κ hv1;have c0:w1.cell? ⟨zp,0,none⟩=some (.bool z1.ng):=(by have:=(hl1.ok z1 (by simp)).ib.cell0;rwa[hp1']at this);have f0:w1.frozen? ⟨zp,0,none⟩=false:=(by have:=(hl1.ok z1 (by simp)).ib.frozen 0;rwa[hp1']at this);have HP:=κ hp1';clear hp1 hp1' hl1 hv1);first|go_ret2|go_ret
 obtain⟨z2,e1,e2,e3⟩:=HL.out.pos0 (by rw[HV.out];exact H0.out);rw[HP.out]at e3;exact⟨rfl,z2,e1.trans (HP.out.trans HZP.out),e2.trans HV.out,e3⟩
theorem setOneI{p:Nat}(h:Li w0 w (newIn p::W)):
 Calls Tryz.prog 35 #[.pointer (some ⟨p,0,none⟩),.int .i64 1] w fun e w'=>e= .returned (.pointer (some ⟨p,0,none⟩))/\PutI w0 W (newIn p) 1 w':=by
 have ho:=h.ok (newIn p) (by simp);have ib:IntB w p false none 0 0:=ho.ib;have c1:=ib.cell1;have HI:=κ ib;have H:=κ h;have C:=κ (setOne w);clear h ho ib;go_enter Tryz.func35,Tryz.ntmps35;go_wp2_with (go_at_call 57;refine(C.out).mono ?_;rintro e w1 ⟨g,rfl,row,hg,f1⟩;have I1:=κ (HI.out.fr0 f1);have z1:=I1.out.cell1;have y1:=I1.out.frozen 1;have z0:(w1.setCell ⟨p,1,none⟩ (.slice (some ⟨g,0,none⟩) 1 1)).cell? ⟨p,0,none⟩=some (.bool false):=(I1.out.set1 (some ⟨g,0,none⟩) 1 1).cell0;have y0:(w1.setCell ⟨p,1,none⟩ (.slice (some ⟨g,0,none⟩) 1 1)).frozen? ⟨p,0,none⟩=false:=(I1.out.set1 (some ⟨g,0,none⟩) 1 1).frozen 0;have HR:=κ row;have HG:=κ hg;have F1:=κ f1;clear row hg f1);first|go_ret2|go_ret
 have i1:=I1.out;have i2:=i1.set1 (some ⟨g,0,none⟩) 1 1;have g1:=i1.fc_set (a:=⟨p,1,none⟩) rfl (.slice (some ⟨g,0,none⟩) 1 1);have g2:=i2.fc_set (a:=⟨p,0,none⟩) rfl (.bool false);have hpg:g≠p:=i1.row_ne HR.out;obtain⟨L1,r1,_,_⟩:=HR.out.fc g1;have hw:Wr 51 w1 g 0 [1]:=Wr.row HR.out;have hn:Nm w1 (some ⟨g,0,none⟩) g 0 1 [1]:=Nm.of_wr hw (Rcv.of_row HR.out (by simp) (by unfold maxLen;omega)) (by simp);have hn1:=hn.fc g1 (fun i _ _ e=>hpg e);have hn2:=hn1.fc g2 (fun i _ _ e=>hpg e);refine⟨rfl,⟨p,false,some ⟨g,0,none⟩,g,0,1,[1]⟩,rfl,?_,H.out.put (((Fc.fr0 F1.out _ _).t (g1.mono (fun b i hh _=> .inl hh))).t (g2.mono (fun b i hh _=> .inl hh))) ⟨i2.set0 false,hn2,DG.cons (by omega) (by omega) (DG.nil _),(show NZ [1]from .inr (by simp))⟩ rfl (.inr (.inr HG.out))⟩
 ·show sg false (val 18446744073709551616 [1])=1
  rw[sg_f,val_cons,val_nil];omega
theorem setWordA{v:Int}(h:Li w0 w (z::W))(hl:z.xs.length=1)(hn:z.ng=false)(h0:0<v)(h1:v<18446744073709551616): ∃z',z'.p=z.p/\z'.v=v/\Li w0 (w.setCell ⟨z.b,z.o,none⟩ (.int .u64 v)) (z'::W):=by
 have ho:=h.ok z (by simp);have hc:=ho.nm.le;have hw:=ho.nm.wr (by omega);obtain⟨t,ht⟩:=List.length_eq_one_iff.1 hl;have hs:=hw.set (j:=0) (by omega) v;have hf:=Fc.set1 hw (j:=0) (by omega) v;rw[ht]at hs;have ib:=ho.ib.fc hf (fun i hh=>ho.pb ho (by omega) hh.1);rw[hn,hl]at ib;refine⟨⟨z.p,false,z.A,z.b,z.o,z.c,[v]⟩,rfl,?_,h.put (hf.mono (fun b i hh _=> .inr ⟨by omega,hh.1⟩)) ⟨ib,Nm.of_wr hs (ho.nm.rcv.fc hf) (by simp;omega),DG.cons (by omega) h1 (DG.nil _),(show NZ [v]from .inr (by show v≠0;omega))⟩ rfl (.inr (.inl ⟨rfl,rfl⟩))⟩;show sg false (val 18446744073709551616 [v])=v;rw[sg_f,val_cons,val_nil];omega
theorem lehSimI(hA:InOk w x)(hB:InOk w y)(hx0:0<x.v)(hy0:0<y.v)(h2:2<=y.xs.length)(hx9:x.xs.length<=800)(hle:y.v<=x.v):Calls Tryz.prog 120 #[x.pt,y.pt] w (LsP x.v y.v w):=by
 obtain⟨nx,lx,vx⟩:=In.pos hA hx0;obtain⟨ny,ly,vy⟩:=In.pos hB hy0;have ex:=hA.nm.addr lx;have ey:=hB.nm.addr ly;obtain⟨px,gx,Ax,bx,ox,cx,xs⟩:=x;obtain⟨py,gy,Ay,by_,oy,cy,ys⟩:=y;simp only at*;subst ex ey;rw[vx,vy]at hle ⊢
 exact lehSim hA hB rfl rfl h2 hx9 hle
end
end Go.Proofs.YthecibbmbnpegaaGreatDoor
namespace Go.Big
theorem LeI.qv{a b A B U V e:Int}(I:LeI a b A B U V e)(hB:0<B):A/B*(e*V)<=b:=by
 have h:=I.sum;have h1:0<=B*(-(e*U)):=Int.mul_nonneg I.b0 (by have:=I.su;omega);have h2:A/B*(e*V)<=A*(e*V):=Int.mul_le_mul_of_nonneg_right (Int.ediv_le_self B (by have:=I.a0;omega)) I.sv;omega
end Go.Big
namespace Go.Proofs.YthecibbmbnpegaaGreatDoor
open Go.Big Go.RowKit
attribute [local go_sem ↓] Go.wp_at_zero Go.wp_at_succ
section
variable {w0 w w':World}{W:List In}{x y z q r:In}{V:Int}
theorem min_len{wx:World}{q' v:In}{e b:Int}(hq:InOk wx q')(hv:InOk w v)(h0:0<=q'.v)(he:e=1\/e= -1)(hev:0<=e*v.v)(hb:q'.v*(e*v.v)<=b)(hb1:b<18446744073709551616^78):min q'.xs.length v.xs.length<40:=by
 rcases Nat.lt_or_ge (min q'.xs.length v.xs.length) 40 with h|h
 ·exact h
 ·exfalso
  have hP:=pow_pos_ (B:=18446744073709551616) (by omega) 39;have e1:(18446744073709551616:Int)^78=18446744073709551616^39*18446744073709551616^39:=by rw[<-Int.pow_add]
  rw[e1]at hb1
  have L1:(18446744073709551616:Int)^39<=q'.v:=by
   rcases Int.lt_or_le q'.v ((18446744073709551616:Int)^39)with hh|hh
   ·have:=In.len (k:=39) hq hh (by generalize(18446744073709551616:Int)^39=P at *;omega)
    omega
   ·exact hh
  have L2:(18446744073709551616:Int)^39<=e*v.v:=by
   rcases Int.lt_or_le (e*v.v) ((18446744073709551616:Int)^39)with hh|hh
   ·have:=In.len (k:=39) hv (by generalize(18446744073709551616:Int)^39=P at *;rcases he with rfl|rfl<;>omega) (by generalize(18446744073709551616:Int)^39=P at *;rcases he with rfl|rfl<;>omega)
    omega
   ·exact hh
  generalize(18446744073709551616:Int)^39=P at*;have h3:P*P<=q'.v*(e*v.v):=Int.mul_le_mul L1 L2 (by omega) h0;omega
structure LgS(w0:World)(D:List In)(a b M:Int)(e:Int)(A B U V q r:In)(wx:World):Prop where
 li:Li w0 wx (A::B::U::V::q::r::D)
 inv:LeI a b A.v B.v U.v V.v e
 bd:A.v<=M
 bb:b<=M
def pv(p:Nat):Value:= .pointer (some ⟨p,0,none⟩)
section
variable {D:List In}{a b M e:Int}{A B U V q r:In}{k:Nat}
theorem LgS.lenA(h:LgS w0 D a b M e A B U V q r w)(hM:M<18446744073709551616^k):A.xs.length<=k:=by
 have h1:=h.inv.a0;have h2:=h.bd;have hP:=pow_pos_ (B:=18446744073709551616) (by omega) k;exact In.len (h.li.ok A (by simp)) (by omega) (by omega)
theorem LgS.lenB(h:LgS w0 D a b M e A B U V q r w)(hM:M<18446744073709551616^k):B.xs.length<=k:=by
 have h1:=h.inv.b0;have h3:=h.inv.ab;have h2:=h.bd;have hP:=pow_pos_ (B:=18446744073709551616) (by omega) k;exact In.len (h.li.ok B (by simp)) (by omega) (by omega)
theorem LgS.lenU(h:LgS w0 D a b M e A B U V q r w)(hM:M<18446744073709551616^k):U.xs.length<=k:=by
 have h1:=h.inv.bd;have h2:=h.bb;exact In.len (h.li.ok U (by simp)) (by omega) (by omega)
theorem LgS.lenV(h:LgS w0 D a b M e A B U V q r w)(hM:M<18446744073709551616^k):V.xs.length<=k:=by
 have h1:=h.inv.vb;have h2:=h.bb;exact In.len (h.li.ok V (by simp)) (by omega) (by omega)
theorem lg_mat{u0 u1 v0 v1:Int}{ev:Bool}(h:LgS w0 D a b M e A B U V q r w)(hM:M<18446744073709551616^78)(L:LeM A.v B.v u0 u1 v0 v1 (if ev then 1 else -1))(hu0:0<=u0/\u0<18446744073709551616)(hu1:0<=u1/\u1<18446744073709551616)(hv0:0<=v0/\v0<18446744073709551616)(hv1:0<=v1/\v1<18446744073709551616):
 Calls Tryz.prog 121 #[A.pt,B.pt,q.pt,r.pt,.int .u64 u0,.int .u64 u1,.int .u64 v0,.int .u64 v1,.bool ev] w fun en w1=>en= .returned (.tuple #[])/\ 
  Calls Tryz.prog 121 #[U.pt,V.pt,q.pt,r.pt,.int .u64 u0,.int .u64 u1,.int .u64 v0,.int .u64 v1,.bool ev] w1 fun en w2=>en= .returned (.tuple #[])/\ ∃(A' B' U' V' q2 r2:In) (e':Int),A'.p=A.p/\B'.p=B.p/\U'.p=U.p/\V'.p=V.p/\q2.p=q.p/\r2.p=r.p/\LgS w0 D a b M e' A' B' U' V' q2 r2 w2/\(1<=v0->0<B.v->A'.v+B'.v<A.v+B.v):=by
 have p1:(A::B::U::V::q::r::D).Perm (A::B::q::r::U::V::D):=((List.perm_append_comm (l₁:=[U,V]) (l₂:=[q,r])).append_right D).cons B |>.cons A;have hv9:=h.lenV hM;have hu9:=h.lenU hM;refine(lehUpd ev (h.li.perm p1) (by have:=h.lenA hM;omega) (by have:=h.lenB hM;omega) hu0 hu1 hv0 hv1).mono ?_;rintro en w1 ⟨rfl,A',B',q',r',e1,e2,e3,e4,hvA,hvB,hl⟩;refine⟨rfl,?_⟩;have eq:q.pt=q'.pt:=by unfold In.pt;rw[e3]
 have er:r.pt=r'.pt:=by unfold In.pt;rw[e4]
 rw[eq,er]
 have p2:(A'::B'::q'::r'::U::V::D).Perm (U::V::q'::r'::A'::B'::D):=by
  have h1:[A',B',q',r',U,V].Perm [U,V,q',r',A',B']:=(List.perm_append_comm (l₁:=[A',B',q',r']) (l₂:=[U,V])).trans ((List.perm_append_comm (l₁:=[A',B']) (l₂:=[q',r'])).cons V |>.cons U);exact h1.append_right D
 refine(lehUpd ev (hl.perm p2) (by omega) (by omega) hu0 hu1 hv0 hv1).mono ?_;rintro en w2 ⟨rfl,U',V',q2,r2,f1,f2,f3,f4,hvU,hvV,hl2⟩;refine⟨rfl,A',B',U',V',q2,r2,(if ev then 1 else -1)*e,e1,e2,f1,f2,f3.trans e3,f4.trans e4,?_,?_⟩
 ·have I:=h.inv.mat L
  have p3:(U'::V'::q2::r2::A'::B'::D).Perm (A'::B'::U'::V'::q2::r2::D):=by
   have h1:[U',V',q2,r2,A',B'].Perm [A',B',U',V',q2,r2]:=List.perm_append_comm (l₁:=[U',V',q2,r2]) (l₂:=[A',B']);exact h1.append_right D
  have q1:A'.v=(if ev then 1 else -1)*(u0*A.v-v0*B.v):=by rw[hvA];cases ev<;>simp[sg]<;>grind
  have q2':B'.v=(if ev then 1 else -1)*(v1*B.v-u1*A.v):=by rw[hvB];cases ev<;>simp[sg]<;>grind
  have q3:U'.v=(if ev then 1 else -1)*(u0*U.v-v0*V.v):=by rw[hvU];cases ev<;>simp[sg]<;>grind
  have q4:V'.v=(if ev then 1 else -1)*(v1*V.v-u1*U.v):=by rw[hvV];cases ev<;>simp[sg]<;>grind
  rw[<-q1,<- q2',<- q3,<- q4]at I;refine⟨hl2.perm p3,I,?_,h.bb⟩;have hk:=L.back.1;rw[<-q1,<- q2']at hk;have a0:=I.a0;have b0:=I.b0;have:=h.bd;rcases Int.lt_or_le v1 1 with hv|hv
  ·
   have z1:v1=0:=by omega
   have z2:v0=0:=by have:=L.vv;omega
   rw[z1,z2]at hk;have:=h.inv.a0;omega
  ·have h1:1*A'.v<=v1*A'.v:=Int.mul_le_mul_of_nonneg_right hv (by omega)
   have h2:0<=v0*B'.v:=Int.mul_nonneg hv0.1 b0;omega
 ·intro hv hB
  have:=L.less hv hB;have q1:A'.v=(if ev then 1 else -1)*(u0*A.v-v0*B.v):=by rw[hvA];cases ev<;>simp[sg]<;>grind
  have q2':B'.v=(if ev then 1 else -1)*(v1*B.v-u1*A.v):=by rw[hvB];cases ev<;>simp[sg]<;>grind
  rw[q1,q2'];exact this
theorem lg_euc(h:LgS w0 D a b M e A B U V q r w)(hM:M<18446744073709551616^78)(hB:0<B.v)(hg:Gl w0):
 Calls Tryz.prog 122 #[A.pt,B.pt,U.pt,V.pt,q.pt,r.pt,.bool true] w fun en w1=> ∃A1 U1 q1 r1,en= .returned (.tuple #[B.pt,A1.pt,r1.pt,V.pt,U1.pt])/\q1.p=q.p/\LgS w0 D a b M (-e) B A1 V U1 q1 r1 w1/\B.v+A1.v<A.v+B.v/\A1.v<B.v:=by
 refine(eucUpd h.li hg h.inv.a0 hB (by have:=h.lenA hM;omega) (by have:=h.lenB hM;omega) (by have:=h.lenU hM;omega) (by have:=h.lenV hM;omega) (fun wx q' ho hq=> ?_)).mono ?_
 ·refine min_len ho (h.li.ok V (by simp)) (by rw[hq];exact Int.ediv_nonneg (by have:=h.inv.a0;omega) (by omega)) h.inv.e1 h.inv.sv (b:=b) (by rw[hq];exact h.inv.qv hB) (by have:=h.bb;omega)
 ·rintro en w1 ⟨U1,q1,r1,rfl,e1,e2,e3,hr,hu,hl⟩
  have r1':=Int.emod_lt_of_pos A.v hB;have hab:=h.inv.ab;refine⟨r1,U1,q1,A,rfl,e2,⟨hl.perm ?_,?_,by have:=h.bd;omega,h.bb⟩,by omega,by omega⟩
  ·have h1:[A,B,U1,V,q1,r1].Perm [B,r1,V,U1,q1,A]:=by
    have s1:[A,B,U1,V,q1,r1].Perm [B,U1,V,q1,r1,A]:=List.perm_append_comm (l₁:=[A]) (l₂:=[B,U1,V,q1,r1]);have s2:[U1,V,q1,r1,A].Perm [r1,U1,V,q1,A]:=List.perm_append_comm (l₁:=[U1,V,q1]) (l₂:=[r1]) |>.append_right [A];exact s1.trans ((s2.trans ((List.Perm.swap V U1 [q1,A]).cons r1)).cons B)
   exact h1.append_right D
  ·have:=h.inv.euclid hB rfl rfl
   rw[<-hr]at this;rwa[<-hu]at this
end
end
end Go.Proofs.YthecibbmbnpegaaGreatDoor
