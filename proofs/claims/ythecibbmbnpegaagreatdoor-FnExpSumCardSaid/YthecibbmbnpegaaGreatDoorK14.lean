/-
  Part 14 of the proof of the law FnExpSum: XSqrA, XSqrN, XSqrB. Conditions: those of each statement.
-/
import Derived.Test.YthecibbmbnpegaaGreatDoorK12
import Derived.Test.YthecibbmbnpegaaGreatDoorK13
import Derived.Laws.Bits64
set_option linter.unusedSimpArgs false
set_option linter.unusedVariables false
set_option maxRecDepth 100000
set_option maxHeartbeats 4000000
namespace Go.Proofs.YthecibbmbnpegaaGreatDoor
open Go.Big Go.RowKit
attribute [local go_sem ↓] Go.wp_at_zero Go.wp_at_succ
structure SqrPre(n s:Nat)(q:Option StkSt)(A:Option Addr)(l bz oz cz:Nat)(Ax:Option Addr)(bx ox cx:Nat)(xs:List Int)(w:World):Prop where
 st:StkAt w s q
 len:lenS q+1500*(n+1)<=100000000000
 tb:Glo w 2 12
 tk:Glo w 3 80
 rz:Rcv w A bz oz cz
 lz:l<=cz
 cz9:cz<=9223372036854775807
 x:Nm w Ax bx ox cx xs
 xn:xs.length=n
 xd:DG 18446744073709551616 xs
 cx9:cx<=9223372036854775807
 few:n<=900
 dx:Dj bx ox n bz oz (rm (n+n) cz)
 ex:0<cz->0<cx->bz≠bx\/oz+cz≠ox+cx
 oz_:Off (StS s q) bz oz cz
 ox_:Off (StS s q) bx ox cx
 bs:bz≠s/\ ∀p,q=some p->bz≠p.si
def SqrOK(n:Nat):Prop:= ∀(s:Nat) (q:Option StkSt) (A:Option Addr) (l bz oz cz:Nat) (Ax:Option Addr) (bx ox cx:Nat) (xs:List Int) (w:World),
 SqrPre n s q A l bz oz cz Ax bx ox cx xs w->
  Calls Tryz.prog 70 #[.slice A l cz,.pointer (some ⟨s,0,none⟩),.slice Ax n cx] w (MulP s q A bz oz cz (n+n) (val 18446744073709551616 xs*val 18446744073709551616 xs) w)
structure KsqPre(n s:Nat)(q:Option StkSt)(bz oz cz bx ox cx:Nat)(xs:List Int)(w:World):Prop where
 st:StkAt w s q
 len:lenS q+1500*(n+1)<=100000000000
 tb:Glo w 2 12
 tk:Glo w 3 80
 rz:Rcv w (some ⟨bz,oz,none⟩) bz oz cz
 lz:2*n<=cz
 cz9:cz<=9223372036854775807
 x:Nm w (some ⟨bx,ox,none⟩) bx ox cx xs
 xn:xs.length=n
 xd:DG 18446744073709551616 xs
 cx9:cx<=9223372036854775807
 few:n<=900
 dx:Dj bx ox n bz oz (2*n)
 ex:bz≠bx\/oz+cz≠ox+cx
 oz_:Off (StS s q) bz oz cz
 ox_:Off (StS s q) bx ox cx
theorem SqrPre.xw{n s:Nat}{q:Option StkSt}{A:Option Addr}{l bz oz cz:Nat}{Ax:Option Addr}{bx ox cx:Nat}{xs:List Int}{w:World}(h:SqrPre n s q A l bz oz cz Ax bx ox cx xs w)(hn:0<n):Ax=some ⟨bx,ox,none⟩/\Wr 51 w bx ox xs/\n<=cx:=
 ⟨h.x.addr (by rw[h.xn];exact hn),h.x.wr (by rw[h.xn];exact hn),by have:=h.x.le;rwa[h.xn]at this⟩
theorem sqr_zero:SqrOK 0:=by
 intro s q A l bz oz cz Ax bx ox cx xs w h
 have hv:val 18446744073709551616 xs*val 18446744073709551616 xs=0:=by
  rw[List.eq_nil_of_length_eq_zero h.xn,val_nil,Int.mul_zero]
 rw[hv];have F:=κ (MulP.none (k:=0+0) h.rz h.st h.oz_);have lz:=h.lz;have cz9:=h.cz9;clear h hv;go_enter_defers Tryz.func70,Tryz.ntmps70;refine wp_mono ?_ bodyPostN_D;go_wp2_with fail;show Leaves _ _ _ _ _ _ _;exact⟨.slice A 0 cz,by simp[results,Tryz.results70,go_sem],F.out⟩
theorem two_set{w:World}{b o:Nat}{Z:List Int}(h:Wr 51 w b o Z)(hl:Z.length=2)(x y:Int):Wr 51 ((w.setCell ⟨b,o+1,none⟩ (.int .u64 x)).setCell ⟨b,o,none⟩ (.int .u64 y)) b o [y,x]/\Fc 51 (In1 b o 2) w ((w.setCell ⟨b,o+1,none⟩ (.int .u64 x)).setCell ⟨b,o,none⟩ (.int .u64 y)):=by
 have h1:=h.set (j:=1) (by omega) x;have h2:=h1.set (j:=0) (by rw[List.length_set];omega) y;have f1:=Fc.set1 h (j:=1) (by omega) x;have f2:=Fc.set1 h1 (j:=0) (by rw[List.length_set];omega) y;simp only[Nat.add_zero]at h2 f2;refine⟨?_,(f1.mono (fun b' i hh _=>by unfold In1 at *;omega)).t (f2.mono (fun b' i hh _=>by unfold In1 at *;omega))⟩;match Z,hl with
 |[a,c],_=>exact h2
theorem sqr_one:SqrOK 1:=by
 intro s q A l bz oz cz Ax bx ox cx xs w h;obtain⟨rfl,hxw,hcx⟩:=h.xw (by omega)
 obtain⟨d,rfl⟩: ∃d,xs=[d]:=by
  have:=h.xn;match xs,this with
  |[d],_=>exact⟨d,rfl⟩
 have hd:=h.xd d (by simp);obtain⟨hd0,hd1⟩:=hd;have c0:=hxw.cell (j:=0) (by simp);simp only[Nat.add_zero,List.getD_cons_zero]at c0;have H:=κ h;have CM:=κ (makeR_any A l bz oz cz 2 w h.rz h.lz (by omega) (by omega));have lz:=h.lz;have cz9:=h.cz9;have cx9:=h.cx9;have CW:=κ (fun W=>mulWW_any d d W hd0 hd1 hd0 hd1)
 have DD:=κ (show DG 18446744073709551616 [d*d%18446744073709551616,d*d/18446744073709551616]by
  have h0:0<=d*d:=Int.mul_nonneg hd0 hd0
  have h1:d*d<18446744073709551616*18446744073709551616:=by
   have g1:d*d<=d*18446744073709551616:=Int.mul_le_mul_of_nonneg_left (by omega) hd0;omega
  exact DG.cons (by omega) (by omega) (DG.cons (by omega) (by omega) (DG.nil _)));clear h hxw;go_enter_defers Tryz.func70,Tryz.ntmps70;refine wp_mono ?_ bodyPostN_D
 go_wp2_with (first
  |(go_at_call 42;refine(CM.out).mono ?_;intro e w3 hm;obtain⟨z,o1,c1,Z,rfl,h1,h2,h3,h4,h5,h6,h7⟩:=hm.out2 (fun hc=>H.out.rz.lt hc);have F3:=κ h5;have hc9:c1<=9223372036854775807:=(by rcases h7 with⟨_,_,_,h7⟩|⟨_,h7,_⟩<;>omega);have H2:=κ h2;have H3:=κ h3;have H4:=κ h4;have H6:=κ h6;have H7:=κ h7;have k1:=h3.cell (j:=1) (by omega);have k0:=h3.cell (j:=0) (by omega);have y1:=h3.frozen (o1+1);have y0:=h3.frozen o1;simp only[Nat.add_zero]at k0;obtain⟨v1,hv1⟩: ∃v1,v1=Z.getD 1 0:=⟨_,rfl⟩;obtain⟨v0,hv0⟩: ∃v0,v0=Z.getD 0 0:=⟨_,rfl⟩;rw[<-hv1]at k1;rw[<-hv0]at k0;clear hm h2 h3 h4 h5 h6 h7 hv0 hv1)
  |(go_at_call 102;refine(CW.out _).mono ?_;rintro e w4 ⟨rfl,rfl⟩)
  |(go_at_call 34;have TS:=two_set H3.out H4.out (d*d/18446744073709551616) (d*d%18446744073709551616);have G4:=κ TS.1;have G8:=κ TS.2;clear TS;have CN:=normN_any (some ⟨z,o1,none⟩) z o1 c1 [d*d%18446744073709551616,d*d/18446744073709551616] _ (Nm.of_wr G4.out (H2.out.fc G8.out) h1) DD.out;refine CN.mono ?_;rintro e w5 ⟨⟨vs,rfl,p1,p2,p3,p4,p5⟩,rfl⟩;have P1:=κ p1;have P2:=κ p2;have P3:=κ p3;have P4:=κ p4;clear p1 p2 p3 p4 p5 CN));show Leaves _ _ _ _ _ _ _;refine⟨.slice (some ⟨z,o1,none⟩) vs.length c1,by simp[results,Tryz.results70,go_sem],?_⟩
 have hv:val 18446744073709551616 [d*d%18446744073709551616,d*d/18446744073709551616]=val 18446744073709551616 [d]*val 18446744073709551616 [d]:=by
  simp only[val_cons,val_nil,Int.mul_zero,Int.add_zero];exact Int.emod_add_mul_ediv _ _
 have st3:=H.out.st.fr0 F3.out;have hzs:=rcv_stk st3 H2.out (.inl (by omega));exact mul_fin (Fr.refl _ _) F3.out H6.out H7.out H.out.st (H2.out.lt (by omega)) (st3.fc G8.out (fun i hi=>hzs.1 hi.1.symm) (fun p hp i hi=>hzs.2 p hp hi.1.symm)) (StkLe.refl _ _) rfl (G8.out.mono (fun _ _ h _=> .inr h)) P1.out P2.out P3.out (P4.out.trans hv) G4.out rfl DD.out hv
theorem sqr_small{n:Nat}(hn2:2<=n)(hn12:n<12):SqrOK n:=by
 intro s q A l bz oz cz Ax bx ox cx xs w h;obtain⟨rfl,hxw,hcx⟩:=h.xw (by omega);obtain⟨k,hk⟩: ∃k,k=n+n:=⟨_,rfl⟩;have a1:2*(n:Int)=(k:Int):=by omega
 have H:=κ h;have CA1:=κ (fun W (f:Fr [] w W)=>aliasN_any A l bz oz cz (some ⟨bx,ox,none⟩) bx ox cx xs W (h.rz.fc (Fc.fr0 f 51 (fun _ _=>False))) h.lz (h.x.fr0 f) h.ex);rw[h.xn]at CA1;have CM:=κ (fun W (f:Fr [] w W)=>makeR_any A l bz oz cz k W (h.rz.fc (Fc.fr0 f 51 (fun _ _=>False))) h.lz (by omega) (by omega));have HXW:=κ hxw;have HK:=κ hk;have lz:=h.lz;have cz9:=h.cz9;have cx9:=h.cx9;have tb:w.cell? ⟨2,0,none⟩=some (.int .i64 12):=h.tb;have tk:w.cell? ⟨3,0,none⟩=some (.int .i64 80):=h.tk;have hn0:((n:Int)==0)=false:=by rw[beq_eq_false_iff_ne];omega
 have hn1:((n:Int)==1)=false:=by rw[beq_eq_false_iff_ne];omega
 have hnI:(n:Int)<12:=by omega
 have hnI2:(n:Int)<80:=by omega
 have hk9:k<=200000:=by omega
 clear h hxw hk;go_enter_defers Tryz.func70,Tryz.ntmps70;refine wp_mono ?_ bodyPostN_D
 go_wp2_with (first
  |(go_at_call 37;refine(CA1.out _ (Fr.refl _ _)).mono ?_;rintro e w2 ⟨rfl,f2⟩;have F2:=κ f2;have tb2:=f2.cell_some tb (by simp);have tk2:=f2.cell_some tk (by simp);clear f2 tb tk)
  |(go_at_call 42;refine(CM.out _ F2.out).mono ?_;intro e w3 hm;obtain⟨z,o1,c1,Z,rfl,h1,h2,h3,h4,h5,h6,h7⟩:=hm.out2 (fun hc=>(H.out.rz.fc (Fc.fr0 F2.out 51 (fun _ _=>False))).lt hc);have F3:=κ (F2.out.t h5);have hc9:c1<=9223372036854775807:=(by rcases h7 with⟨_,_,_,h7⟩|⟨_,h7,_⟩<;>omega);have H2:=κ h2;have H3:=κ h3;have H4:=κ h4;have H5:=κ h5;have H6:=κ h6;have H7:=κ h7;have tb3:=h5.cell_some tb2 (by simp);have tk3:=h5.cell_some tk2 (by simp);clear tb2 tk2 hm h2 h3 h4 h5 h6 h7)
  |(go_at_call 51;have hs2:=F2.out.size;refine(basicMulW_any z o1 k c1 bx ox cx bx ox cx n n Z xs xs _ H3.out H4.out (by rw[HK.out];exact Nat.le_refl _) h1 H.out.xn (HXW.out.fr0 F3.out).src H.out.xd (by have:=made_dj (m:=n) h1 H7.out (HK.out▸H.out.dx) (Nat.lt_of_lt_of_le HXW.out.lt hs2);rwa[HK.out]at this) H.out.xn (HXW.out.fr0 F3.out).src H.out.xd (by have:=made_dj (m:=n) h1 H7.out (HK.out▸H.out.dx) (Nat.lt_of_lt_of_le HXW.out.lt hs2);rwa[HK.out]at this) (by omega) (by omega) (by omega) (by omega) hc9 hcx hcx).mono ?_;rintro e w4 ⟨rfl,us,g1,g2,g3,g4,g5⟩;rw[<-HK.out]at g2 g5;have G1:=κ g1;have G2:=κ g2;have G3:=κ g3;have G4:=κ g4;have G5:=κ g5;clear g1 g2 g3 g4 g5)
  |(go_at_call 34;have CN:=normN_any (some ⟨z,o1,none⟩) z o1 c1 us _ (Nm.of_wr G1.out (H2.out.fc G5.out) (by rw[G2.out];exact h1)) G3.out;rw[G2.out]at CN;refine CN.mono ?_;rintro e w5 ⟨⟨vs,rfl,p1,p2,p3,p4,p5⟩,rfl⟩;have P1:=κ p1;have P2:=κ p2;have P3:=κ p3;have P4:=κ p4;clear p1 p2 p3 p4 p5 CN));show Leaves _ _ _ _ _ _ _;refine⟨.slice (some ⟨z,o1,none⟩) vs.length c1,by simp[results,Tryz.results70,go_sem],?_⟩;have st3:=H.out.st.fr0 F3.out;have hzs:=rcv_stk st3 H2.out (.inl (by omega));rw[<-HK.out];exact mul_fin F2.out F3.out H6.out H7.out H.out.st (H2.out.lt (by omega)) (st3.fc G5.out (fun i hi=>hzs.1 hi.1.symm) (fun p hp i hi=>hzs.2 p hp hi.1.symm)) (StkLe.refl _ _) rfl (G5.out.mono (fun _ _ h _=> .inr h)) P1.out P2.out P3.out (P4.out.trans G4.out) G1.out G2.out G3.out G4.out
theorem ksq_pre{n k s:Nat}{q:Option StkSt}{A:Option Addr}{l bz oz cz bx ox cx z o1 c1:Nat}{xs:List Int}{w w2 W:World}(H:SqrPre n s q A l bz oz cz (some ⟨bx,ox,none⟩) bx ox cx xs w)(hn:2<=n)(hk:k=n+n)
 (F2:Fr [] w w2)(F:Fr [] w W)(h1:k<=c1)(hc9:c1<=9223372036854775807)(H2:Rcv W (some ⟨z,o1,none⟩) z o1 c1)(H7:(some (⟨z,o1,none⟩:Addr)=A/\z=bz/\o1=oz/\c1=cz)\/(cz<k/\c1<=k+4/\w2.heap.size<=z)):
 KsqPre n s q z o1 c1 bx ox cx xs W:=by
 have hs2:=F2.size;have hbx:=H.x.lt (by have:=H.xn;omega);have hcx:=H.x.le;have hxn:=H.xn;have hd1:=made_dj h1 H7 (hk▸H.dx) (Nat.lt_of_lt_of_le hbx hs2);exact⟨H.st.fr0 F,H.len,H.tb.fr0 F,H.tk.fr0 F,H2,by omega,hc9,H.x.fr0 F,H.xn,H.xd,H.cx9,H.few,hd1.sub1 (Nat.le_refl _) (by omega),made_ne H7 H.ex (by omega) (by omega) (by omega),made_off H7 H.oz_ H.st hs2,H.ox_⟩
theorem sqr_mid{n:Nat}(hn12:12<=n)(hn80:n<80):SqrOK n:=by
 intro s q A l bz oz cz Ax bx ox cx xs w h;obtain⟨rfl,hxw,hcx⟩:=h.xw (by omega);obtain⟨k,hk⟩: ∃k,k=n+n:=⟨_,rfl⟩;have a1:2*(n:Int)=(k:Int):=by omega
 have hk2:k=2*n:=by omega
 have H:=κ h;have CA1:=κ (fun W (f:Fr [] w W)=>aliasN_any A l bz oz cz (some ⟨bx,ox,none⟩) bx ox cx xs W (h.rz.fc (Fc.fr0 f 51 (fun _ _=>False))) h.lz (h.x.fr0 f) h.ex);rw[h.xn]at CA1;have CM:=κ (fun W (f:Fr [] w W)=>makeR_any A l bz oz cz k W (h.rz.fc (Fc.fr0 f 51 (fun _ _=>False))) h.lz (by omega) (by omega));have HXW:=κ hxw;have HK:=κ hk;have HK2:=κ hk2;have lz:=h.lz;have cz9:=h.cz9;have cx9:=h.cx9;have tb:w.cell? ⟨2,0,none⟩=some (.int .i64 12):=h.tb;have tk:w.cell? ⟨3,0,none⟩=some (.int .i64 80):=h.tk;have hn0:((n:Int)==0)=false:=by rw[beq_eq_false_iff_ne];omega
 have hn1:((n:Int)==1)=false:=by rw[beq_eq_false_iff_ne];omega
 have hnI: ¬(n:Int)<12:=by omega
 have hnI2:(n:Int)<80:=by omega
 have hk9:k<=200000:=by omega
 clear h hxw hk hk2;go_enter_defers Tryz.func70,Tryz.ntmps70;refine wp_mono ?_ bodyPostN_D
 go_wp2_with (first
  |(go_at_call 37;refine(CA1.out _ (Fr.refl _ _)).mono ?_;rintro e w2 ⟨rfl,f2⟩;have F2:=κ f2;have tb2:=f2.cell_some tb (by simp);have tk2:=f2.cell_some tk (by simp);clear f2 tb tk)
  |(go_at_call 42;refine(CM.out _ F2.out).mono ?_;intro e w3 hm;obtain⟨z,o1,c1,Z,rfl,h1,h2,h3,h4,h5,h6,h7⟩:=hm.out2 (fun hc=>(H.out.rz.fc (Fc.fr0 F2.out 51 (fun _ _=>False))).lt hc);have F3:=κ (F2.out.t h5);have hc9:c1<=9223372036854775807:=(by rcases h7 with⟨_,_,_,h7⟩|⟨_,h7,_⟩<;>omega);have H2:=κ h2;have H3:=κ h3;have H4:=κ h4;have H6:=κ h6;have H7:=κ h7;have tb3:=h5.cell_some tb2 (by simp);have tk3:=h5.cell_some tk2 (by simp);clear tb2 tk2 hm h2 h3 h4 h5 h6 h7)
  |(go_at_call 103;have CP:=ksq_pre H.out (by omega) HK.out F2.out F3.out h1 hc9 H2.out H7.out;have CB:=basicSqr_any s q z o1 c1 bx ox cx n Z xs _ CP.st (by have:=CP.len;omega) CP.tb H3.out (H4.out.trans HK2.out) (HXW.out.fr0 F3.out).src (HXW.out.fr0 F3.out).lt H.out.xn H.out.xd (by omega) (by omega) CP.dx (Off.take CP.oz_ (by have:=HK2.out;omega)) (Off.take CP.ox_ hcx) hcx (by unfold maxLen;omega) CP.lz hc9;rw[<-HK2.out]at CB;refine CB.mono ?_;rintro e w4 ⟨q4,us,rfl,g1,g2,g3,g4,g5,g6,g7,g8⟩;have G1:=κ g1;have G2:=κ g2;have G3:=κ g3;have G4:=κ g4;have G5:=κ g5;have G6:=κ g6;have G7:=κ g7;have G8:=κ g8;clear g1 g2 g3 g4 g5 g6 g7 g8 CP CB)
  |(go_at_call 34;have CN:=normN_any (some ⟨z,o1,none⟩) z o1 c1 us _ (Nm.of_wr G4.out (H2.out.fc G8.out) (by rw[G5.out];exact h1)) G6.out;rw[G5.out]at CN;refine CN.mono ?_;rintro e w5 ⟨⟨vs,rfl,p1,p2,p3,p4,p5⟩,rfl⟩;have P1:=κ p1;have P2:=κ p2;have P3:=κ p3;have P4:=κ p4;clear p1 p2 p3 p4 p5 CN));show Leaves _ _ _ _ _ _ _;refine⟨.slice (some ⟨z,o1,none⟩) vs.length c1,by simp[results,Tryz.results70,go_sem],?_⟩;rw[<-HK.out];exact mul_fin F2.out F3.out H6.out H7.out H.out.st (H2.out.lt (by omega)) G1.out G2.out G3.out G8.out P1.out P2.out P3.out (P4.out.trans G7.out) G4.out G5.out G6.out G7.out
end Go.Proofs.YthecibbmbnpegaaGreatDoor
namespace Go.Proofs.YthecibbmbnpegaaGreatDoor
open Go.Big Go.RowKit
theorem sqr_lo(n:Nat)(h80:n<80):SqrOK n:=by
 by_cases h0:n=0
 ·subst h0;exact sqr_zero
 by_cases h1:n=1
 ·subst h1;exact sqr_one
 by_cases h12:n<12
 ·exact sqr_small (by omega) h12
 exact sqr_mid (by omega) h80
section
variable {n h r s:Nat}{q:Option StkSt}{z oz cz bx ox cx bt ot:Nat}{u0 u1 v0 v1:List Int}{p0 p1 r0 r1 t0 t1 t2 tx ty:Nat}{w:World}
structure Q1(n h r s:Nat)(q:Option StkSt)(z oz cz bt ot t0 t1 t2 tx ty:Nat)(V:Int)(w:World)(nx:Bool)(Ad:Option Addr)(bd od cd:Nat)(d:List Int)(w1:World):Prop where
 kw:KW n h s q z oz bt ot t0 t1 t2 tx ty w q w1
 dx:KN w.heap.size tx z oz cz h V w1 nx Ad bd od cd d
 i0:IntB w1 t0 false (some ⟨z,oz,none⟩) (2*h) cz
 i1:IntB w1 t1 false (some ⟨bt,ot,none⟩) (2*h+1) (2*h+1)
 i2:IntB w1 t2 false (some ⟨z,oz+2*h,none⟩) (2*r) (cz-2*h)
end
end Go.Proofs.YthecibbmbnpegaaGreatDoor
