/-
  Part 9 of the proof of the law FnExpSum: XNR. Conditions: those of each statement.
-/
import Derived.Test.YthecibbmbnpegaaGreatDoorK08
import Derived.Laws.Bits64
set_option linter.unusedSimpArgs false
set_option linter.unusedVariables false
set_option maxRecDepth 100000
set_option maxHeartbeats 2000000
namespace Go.Proofs.YthecibbmbnpegaaGreatDoor
open Go.Big Go.RowKit
def Nm(w:World)(A:Option Addr)(b o c:Nat)(xs:List Int):Prop:=xs.length<=c/\Rcv w A b o c/\(0<xs.length->Go.Big.Src .u64 w b o xs)
section
variable {w w1 w':World}{A:Option Addr}{b o c n:Nat}{xs Z:List Int}{S:Nat->Nat->Prop}
theorem Rcv.max(h:Rcv w A b o c):c<=maxLen:=h.1
theorem Rcv.lt(h:Rcv w A b o c)(hc:0<c):b<w.heap.size:=by
 obtain⟨_,h|⟨_,Z,hZ,_⟩⟩:=h
 ·omega
 ·exact hZ.lt
theorem Rcv.addr(h:Rcv w A b o c)(hc:0<c):A=some ⟨b,o,none⟩:=by
 obtain⟨_,h|⟨h,_⟩⟩:=h
 ·omega
 ·exact h
theorem Rcv.row(h:Rcv w A b o c)(hc:0<c): ∃L,Row .u64 51 w b L/\o+c<=L.length:=by
 obtain⟨_,h|⟨_,Z,⟨_,L,hL,hl⟩,hz⟩⟩:=h
 ·omega
 ·exact⟨L,hL,by omega⟩
theorem Rcv.of_row{L:List Int}(h:Row .u64 51 w b L)(hl:o+c<=L.length)(hc:c<=maxLen):Rcv w (some ⟨b,o,none⟩) b o c:=by
 refine⟨hc,.inr ⟨rfl,(L.drop o).take c,Wr.of_row h ?_ (fun j hj=> ?_),?_⟩⟩
 ·rw[List.length_take,List.length_drop];omega
 ·rw[List.length_take]at hj;rw[getD_drop_take (by omega)]
 ·rw[List.length_take,List.length_drop];omega
theorem Rcv.wr(h:Rcv w A b o c)(hn:n<=c)(hc:0<c): ∃Z,Wr 51 w b o Z/\Z.length=n:=by
 obtain⟨_,h|⟨_,Z,hZ,hl⟩⟩:=h
 ·omega
 ·exact⟨Z.take n,hZ.take n (by omega),by rw[List.length_take];omega⟩
theorem Rcv.drop(h:Rcv w A b o c)(hn:n<c):Rcv w (some ⟨b,o+n,none⟩) b (o+n) (c-n):=by
 obtain⟨L,hL,hl⟩:=h.row (by omega);exact Rcv.of_row hL (by omega) (by have:=h.1;omega)
theorem Nm.rcv(h:Nm w A b o c xs):Rcv w A b o c:=h.2.1
theorem Nm.le(h:Nm w A b o c xs):xs.length<=c:=h.1
theorem Nm.max(h:Nm w A b o c xs):c<=maxLen:=h.2.1.1
theorem Nm.addr(h:Nm w A b o c xs)(hp:0<xs.length):A=some ⟨b,o,none⟩:=h.rcv.addr (by have:=h.1;omega)
theorem Nm.lt(h:Nm w A b o c xs)(hp:0<xs.length):b<w.heap.size:=h.rcv.lt (by have:=h.1;omega)
theorem Nm.wr(h:Nm w A b o c xs)(hp:0<xs.length):Wr 51 w b o xs:=by
 obtain⟨L,hL,hl⟩:=h.rcv.row (by have:=h.1;omega);exact⟨h.2.2 hp,L,hL,by have:=h.1;omega⟩
theorem Nm.fc(h:Nm w A b o c xs)(hf:Fc 51 S w w1)(ho:Off S b o xs.length):Nm w1 A b o c xs:=
 ⟨h.1,h.2.1.fc hf,fun hp=>(h.2.2 hp).fc hf ho⟩
theorem Nm.fr0(h:Nm w A b o c xs)(hf:Fr [] w w1):Nm w1 A b o c xs:=h.fc (Fc.fr0 hf 51 (fun _ _=>False)) (fun _ _ _ h=>h)
theorem Nm.drew(h:Nm w A b o c xs):Nm w.drew A b o c xs:=h.fr0 (Fr.refl _ _).drew
theorem Nm.of_wr(h:Wr 51 w b o xs)(hr:Rcv w A b o c)(hl:xs.length<=c):Nm w A b o c xs:=⟨hl,hr,fun _=>h.1⟩
theorem Nm.nil(h:Rcv w A b o c):Nm w A b o c []:=⟨Nat.zero_le _,h,fun hp=>absurd hp (by simp)⟩
theorem Nm.sl(h:Nm w A b o c xs):Sl .u64 w (.slice A xs.length c) xs:=⟨A,c,rfl,h.1,h.max,fun hp=>⟨b,o,h.addr hp,h.lt hp,h.2.2 hp⟩⟩
theorem Nm.cut(h:Nm w A b o c xs){i:Nat}(hi:i<=xs.length):Nm w A b o c (xs.take i):=by
 refine⟨by rw[List.length_take];have:=h.1;omega,h.2.1,fun hp=> ?_⟩;rw[List.length_take]at hp;exact(h.2.2 (by omega)).take i
theorem cut_facts{i:Nat}(hd:DG 18446744073709551616 xs)(hc:Go.Proofs.YthecibbmbnpegaaGreatDoor.CutAt xs i):(xs.take i).length=i/\DG 18446744073709551616 (xs.take i)/\NZ (xs.take i)/\val 18446744073709551616 (xs.take i)=val 18446744073709551616 xs:=by
 obtain⟨h1,h2,h3⟩:=hc;exact⟨by rw[List.length_take];omega,hd.take _,nz_take h1 h2,val_cut _ h1 h3⟩
theorem fc_row{L L':List Int}{S:Nat->Nat->Prop}{zs:List Int}{off:Nat}(hr:Row .u64 51 w b L)(hr':Row .u64 51 w1 b (spl L off zs))(hf:Fr [b] w w1)(hl:off+zs.length<=L.length)(hS: ∀i,off<=i->i<off+zs.length->S b i):
 Fc 51 S w w1:=Fc.of_spl hf hr hr' hl hS
theorem Wr.of_spl{L zs:List Int}{off:Nat}(hr':Row .u64 51 w1 b (spl L off zs))(hl:off+zs.length<=L.length):Wr 51 w1 b off zs:=
 Wr.of_row hr' (by rw[spl_len hl];omega) (fun j hj=>spl_get_in (by omega) hj)
end
def Al(b o k bx ox m:Nat):Prop:=Dj bx ox m b o k\/(bx=b/\ox=o)
def ResR(w:World)(A:Option Addr)(b o c:Nat)(S:Nat->Nat->Prop)(V:Int)(e:Ending)(w':World):Prop:=
 ∃A' b' o' c' zs,e= .returned (.slice A' zs.length c')/\Nm w' A' b' o' c' zs/\DG 18446744073709551616 zs/\NZ zs/\val 18446744073709551616 zs=V/\((A'=A/\b'=b/\o'=o/\c'=c)\/(w.heap.size<=b'/\c'<=2000000))/\Fc 51 S w w'
theorem normN_any(A:Option Addr)(b o c:Nat)(xs:List Int)(w:World)(h:Nm w A b o c xs)(hd:DG 18446744073709551616 xs):
 Calls Tryz.prog 34 #[.slice A xs.length c] w fun e w'=>(∃zs,e= .returned (.slice A zs.length c)/\Nm w A b o c zs/\DG 18446744073709551616 zs/\NZ zs/\val 18446744073709551616 zs=val 18446744073709551616 xs/\zs.length<=xs.length)/\w=w':=by
 refine(bnorm_any A c xs w h.1 h.max (fun hp=>⟨b,o,h.addr hp,h.2.2 hp⟩)).mono ?_;rintro e w' ⟨i,hc,rfl,rfl⟩;obtain⟨h1,h2,h3,h4⟩:=cut_facts hd hc;exact⟨⟨xs.take i,by rw[h1],h.cut hc.1,h2,h3,h4,by rw[h1];exact hc.1⟩,rfl⟩
theorem MadeR.out{A:Option Addr}{b o c n:Nat}{w:World}{e:Ending}{w':World}(h:MadeR A b o c n w e w')(hlt:0<c->b<w.heap.size):
 ∃b' o' c' Z,e= .returned (.slice (some ⟨b',o',none⟩) n c')/\n<=c'/\Rcv w' (some ⟨b',o',none⟩) b' o' c'/\Wr 51 w' b' o' Z/\Z.length=n/\Fr [] w w'/\(∀x i,In1 b' o' n x i->x<w.heap.size->In1 b o n x i)/\((some ⟨b',o',none⟩=A/\b'=b/\o'=o/\c'=c)\/(w.heap.size<=b'/\c'<=n+4)):=by
 obtain⟨b',o',c',Z,rfl,h1,h2,hZ,hl,hf,hh⟩:=h;refine⟨b',o',c',Z.take n,rfl,h1,⟨h2,.inr ⟨rfl,Z,hZ,hl⟩⟩,hZ.take n (by omega),by rw[List.length_take];omega,hf,?_,?_⟩
 ·intro x i hx hlt'
  rcases hh with⟨_,rfl,rfl,_⟩|⟨_,_,hb⟩
  ·exact hx
  ·obtain⟨rfl,_⟩:=hx;omega
 ·rcases hh with⟨hA,rfl,rfl,rfl,_⟩|⟨_,h4,hb⟩
  ·exact .inl ⟨hA.symm,rfl,rfl,rfl⟩
  ·exact .inr ⟨hb,h4⟩
theorem Al.made{b o k bx ox m b' o':Nat}{w:World}(h:Al b o k bx ox m)(hh:(b'=b/\o'=o)\/w.heap.size<=b')(hlt:bx<w.heap.size):Al b' o' k bx ox m:=by
 rcases hh with⟨rfl,rfl⟩|hh
 ·exact h
 ·exact .inl (.inl (by omega))
theorem Al.nt{b o k bx ox m n:Nat}(h:Al b o k bx ox m)(hn:n<=m)(hk:n<=k):Dj bx ox n b o n\/(bx=b/\o<=ox):=by
 unfold Al Dj at *;omega
theorem setR_any(A:Option Addr)(l b o c:Nat)(Ax:Option Addr)(bx ox cx:Nat)(xs:List Int)(w:World)(hx:Nm w Ax bx ox cx xs)(hd:DG 18446744073709551616 xs)(hzx:NZ xs)(h:Rcv w A b o c)(hl:l<=c)(hp:0<xs.length)(hx9:xs.length<=1000000):
 Calls Tryz.prog 41 #[.slice A l c,.slice Ax xs.length cx] w (ResR w A b o c (In1 b o xs.length) (val 18446744073709551616 xs)):=by
 have C:=κ (makeR_any A l b o c xs.length w h hl hp (by omega));have HX:=κ hx;have HD:=κ hd;have HZ:=κ hzx;have HR:=κ h;clear hx hd hzx;go_enter Tryz.func41,Tryz.ntmps41
 go_wp2_with (first
  |(go_at_call 42;refine(Hid.out C).mono ?_;clear C;intro e w1 hm;obtain⟨b',o',c',Z,rfl,h1,h2,h3,h4,h5,h6,h7⟩:=hm.out (fun hc=>HR.out.lt hc);have H2:=κ h2;have H3:=κ h3;have H4:=κ h4;have H5:=κ h5;have H6:=κ h6;have H7:=κ h7;obtain⟨_,L,hL,hLl⟩:=h3;have HL:=κ hL;have HLL:=κ (show o'+xs.length<=L.length by omega);clear hm h2 h4 h5 h6 h7 hL hLl)
  |(refine wp_copy rfl (.tmp 9) (.tmp 10) _ _ rfl .u64 51 Tryz.underlying43 size_wordS b' o' xs.length c' rfl _ xs rfl (HX.out.fr0 H5.out).sl L HL.out HLL.out ?_;intro w2 row2 f2;have HR2:=κ row2;have HF2:=κ f2;clear row2 f2));go_ret;have row2:=HR2.out;rw[List.take_length]at row2;have hf2:Fc 51 (In1 b' o' xs.length) w1 w2:=fc_row (L':=L) HL.out row2 HF2.out HLL.out (fun i a1 a2=>⟨rfl,a1,a2⟩);refine⟨_,b',o',c',xs,rfl,Nm.of_wr (Wr.of_spl row2 HLL.out) (H2.out.fc hf2) h1,HD.out,HZ.out,rfl,H7.out.imp id (fun a=>⟨a.1,by have:=a.2;omega⟩),(Fc.fr0 H5.out _ _).trans hf2 H6.out⟩
theorem naddR_ge(A:Option Addr)(l b o c bx ox cx by_ oy cy m n:Nat)(xs ys:List Int)(w:World)(h:Rcv w A b o c)(hlc:l<=c)(hx:Wr 51 w bx ox xs)(hd:DG 18446744073709551616 xs)(hn:xs.length=m)(hy:Wr 51 w by_ oy ys)(hd':DG 18446744073709551616 ys)(hn':ys.length=n)(hl:m<=1000000)(hnm:n<=m)(hn0:0<n)(hcx:m<=cx)(hcy:n<=cy)(hcx9:cx<=9223372036854775807)(hcy9:cy<=9223372036854775807)(hc9:c<=9223372036854775807)
 (hax:Al b o (m+1) bx ox m)(hay:Al b o (m+1) by_ oy n):
 Calls Tryz.prog 27 #[.slice A l c,.slice (some ⟨bx,ox,none⟩) m cx,.slice (some ⟨by_,oy,none⟩) n cy] w (ResR w A b o c (In1 b o (m+1)) (val 18446744073709551616 xs+val 18446744073709551616 ys)):=by
 have HM:=κ (makeR_any A l b o c (m+1) w h hlc (by omega) (by omega));have HX:=κ hx;have HD:=κ hd;have HN:=κ hn;have HY:=κ hy;have HD':=κ hd';have HN':=κ hn';have HR:=κ h;have HAX:=κ hax;have HAY:=κ hay;clear hx hd hn hy hd' hn' h hax hay;have hm0:((m:Int)==0)=false:=by rw[beq_eq_false_iff_ne];omega
 have hn0':((n:Int)==0)=false:=by rw[beq_eq_false_iff_ne];omega
 have hw:IntKind.i64.wrap ((m:Int)+1)=((m+1:Nat):Int):=by rw[IntKind.wrap_i64];omega
 go_enter Tryz.func27,Tryz.ntmps27;go_wp2_with (go_at_call 42;refine(HM.out).mono ?_;intro e w1 hm;obtain⟨z,oz,cz,Z,rfl,h1,h2,h3,h4,h5,h6,h7⟩:=hm.out (fun hc=>HR.out.lt hc);have H2:=κ h2;have H3:=κ h3;have H4:=κ h4;have H5:=κ h5;have H6:=κ h6;have H7:=κ h7;have hc3:n<=cz:=(by omega);have hcm:cz<=9223372036854775807:=(by have:=h2.1;unfold maxLen at this;omega);clear hm h2 h3 h4 h5 h6 h7);have AX:=κ (HAX.out.made (w:=w) (H7.out.imp (fun a=>⟨a.2.1,a.2.2.1⟩) (fun a=>a.1)) HX.out.lt);have AY:=κ (HAY.out.made (w:=w) (H7.out.imp (fun a=>⟨a.2.1,a.2.2.1⟩) (fun a=>a.1)) HY.out.lt);have X1:=κ (HX.out.fr0 H5.out);have Y1:=κ (HY.out.fr0 H5.out);have CV:=κ (addVVw_any z oz cz bx ox cx by_ oy cy n (Z.take n) (xs.take n) ys w1.drew (H3.out.take n (by rw[H4.out];omega)).drew (by rw[List.length_take,H4.out];omega) (by rw[List.length_take,HN.out];omega) (X1.out.take n (by rw[HN.out];omega)).drew.src (HD.out.take n) (AX.out.nt hnm (by omega)) HN'.out Y1.out.drew.src HD'.out (AY.out.nt (Nat.le_refl _) (by omega)) (by omega));go_region_with (go_at_call 43;refine(CV.out).mono ?_;rintro e w2 ⟨zs,k,rfl,hz2,f2,hzl,hzd,hk0,hk1,hv⟩;have HZ2:=κ hz2;have F2:=κ f2;have HZL:=κ hzl;have HZD:=κ hzd;have HV:=κ hv;clear hz2 f2 hzl hzd hv);clear CV HM;have F12:=κ (show Fc 51 (In1 z oz (m+1)) w1 w2 from F2.out.of_drew.mono (fun x i hh _=>by unfold In1 at *;omega));have HU:=κ (H3.out.upd (i:=0) (zs:=zs) HZ2.out (by rw[HZL.out];exact F2.out.of_drew) (by rw[HZL.out,H4.out];omega));have ZL:=κ (show(spl Z 0 zs).length=m+1 by rw[spl_len (by rw[HZL.out,H4.out];omega),H4.out]);have R2:=κ (H2.out.fc F12.out)
 have FIN: ∀(us:List Int) (w3:World),Wr 51 w3 z oz us->us.length=m+1->DG 18446744073709551616 us->val 18446744073709551616 us=val 18446744073709551616 xs+val 18446744073709551616 ys->Fc 51 (In1 z oz (m+1)) w2 w3->Calls Tryz.prog 34 #[.slice (some ⟨z,oz,none⟩) (m+1:Nat) cz] w3 fun e w'=>(∃zs:List Int,e= .returned (.slice (some ⟨z,oz,none⟩) zs.length cz)/\Hid (ResR w A b o c (In1 b o (m+1)) (val 18446744073709551616 xs+val 18446744073709551616 ys) e w3))/\w3=w':=by
  intro us w3 hus hul hud huv f3;have C:=normN_any (some ⟨z,oz,none⟩) z oz cz us w3 (Nm.of_wr hus (R2.out.fc f3) (by omega)) hud;rw[hul]at C;refine C.mono ?_;rintro e w' ⟨⟨zs',rfl,g1,g2,g3,g4,g5⟩,rfl⟩;exact⟨⟨zs',rfl,κ ⟨_,z,oz,cz,zs',rfl,g1,g2,g3,g4.trans huv,H7.out.imp id (fun a=>⟨a.1,by have:=a.2;omega⟩),(Fc.fr0 H5.out _ _).trans (F12.out.t f3) H6.out⟩⟩,rfl⟩
 have HFIN:=κ FIN;clear FIN;by_cases hmn:n<m
 ·have hmn':(n:Int)<(m:Int):=by omega
  have hXw:Wr 51 w2 bx (ox+n) (xs.drop n):=by
   have hXd:=X1.out.drop n (by rw[HN.out];omega);refine hXd.fc F2.out.of_drew ?_;rw[List.length_drop,HN.out];have:=AX.out;intro i g1 g2 ⟨g3,g4,g5⟩;unfold Al Dj at this;omega
  have CW:=κ (addVWw_any z (oz+n) (cz-n) bx (ox+n) (cx-n) (m-n) (((spl Z 0 zs).drop n).take (m-n)) (xs.drop n) k w2.drew (by
   have:=(HU.out.sub n (m-n) (by rw[ZL.out];omega)).drew;exact this) (by rw[List.length_take,List.length_drop,ZL.out];omega) (by rw[List.length_drop,HN.out]) hXw.drew (HD.out.drop n) (by have:=AX.out;unfold Al Dj at *;omega) (by omega) (by omega) (by omega) (by omega) (by unfold maxLen;omega) (by unfold maxLen;omega) hk0 (by omega));have hczn: ¬cz=n:=by omega
  have hcxn: ¬cx=n:=by omega
  clear hXw;go_wp2_with fail;go_region_with (go_at_call 44;refine(CW.out).mono ?_;rintro e w3 ⟨zs2,k2,rfl,hz3,f3,hzl2,hzd2,hk20,hk21,hv2⟩;have HZ3:=κ hz3;have F3:=κ f3;have HZL2:=κ hzl2;have HZD2:=κ hzd2;have HV2:=κ hv2;clear hz3 f3 hzl2 hzd2 hv2);have hU3:=HU.out.upd (i:=n) (zs:=zs2) HZ3.out (by rw[HZL2.out];exact F3.out.of_drew) (by rw[HZL2.out,ZL.out];omega)
  have e3:spl (spl Z 0 zs) n zs2=spl Z 0 (zs++zs2):=by
   have:=spl_app (L:=Z) (o:=0) (cs:=zs) (ds:=zs2) (by rw[HZL.out,H4.out];omega);rwa[Nat.zero_add,HZL.out]at this
  rw[e3]at hU3;have hl4:(zs++zs2).length=m:=by rw[List.length_append,HZL.out,HZL2.out];omega
  have hL4:(spl Z 0 (zs++zs2)).length=m+1:=by rw[spl_len (by rw[hl4,H4.out];omega),H4.out]
  have cz3:=hU3.cell (j:=m) (by rw[hL4];omega);have fz3:=hU3.frozen (oz+m);obtain⟨old,hold⟩: ∃old,old=(spl Z 0 (zs++zs2)).getD m 0:=⟨_,rfl⟩;rw[<-hold]at cz3
  have hv4:val 18446744073709551616 (zs++zs2++[k2])=val 18446744073709551616 xs+val 18446744073709551616 ys:=by
   have e:=val_split 18446744073709551616 xs n (by rw[HN.out];omega);have h1:=HV.out;have h2:=HV2.out;have e2:(18446744073709551616:Int)^m=18446744073709551616^n*18446744073709551616^(m-n):=by rw[<-Int.pow_add];congr 1;omega
   rw[val_snoc,hl4,val_append,HZL.out,e,e2];grind
  have hU4:=hU3.set (j:=m) (by rw[hL4];omega) k2
  have e4:(spl Z 0 (zs++zs2)).set m k2=zs++zs2++[k2]:=by
   have:=spl_set_end (L:=Z) (o:=0) (cs:=zs++zs2) (by rw[hl4,H4.out];omega) k2;rw[Nat.zero_add,hl4]at this;rw[this,spl_whole (by rw[List.length_append,hl4,H4.out];rfl)]
  rw[e4]at hU4;have F34:Fc 51 (In1 z oz (m+1)) w2 (w3.setCell ⟨z,oz+m,none⟩ (.int .u64 k2)):=(F3.out.of_drew.mono (fun x i hh _=>by unfold In1 at *;omega)).t ((Fc.set1 hU3 (j:=m) (by rw[hL4];omega) k2).mono (fun x i hh _=>by unfold In1 at *;omega));have CN:=κ (HFIN.out _ _ hU4 (by rw[List.length_append,hl4];rfl) ((HZD.out.append HZD2.out).append (DG.cons hk20 (by omega) (DG.nil _))) hv4 F34);clear hold hU3 e3 hl4 hL4 hv4 hU4 e4 F34 CW HFIN;go_wp2_with (go_at_call 34;refine(CN.out).mono ?_;rintro e w5 ⟨⟨zs',rfl,HH⟩,rfl⟩);go_ret;exact HH.out
 ·obtain rfl:n=m:=by omega
  have cz3:=HU.out.cell (j:=n) (by rw[ZL.out];omega);have fz3:=HU.out.frozen (oz+n);obtain⟨old,hold⟩: ∃old,old=(spl Z 0 zs).getD n 0:=⟨_,rfl⟩;rw[<-hold]at cz3;have hU4:=HU.out.set (j:=n) (by rw[ZL.out];omega) k
  have e4:(spl Z 0 zs).set n k=zs++[k]:=by
   have:=spl_set_end (L:=Z) (o:=0) (cs:=zs) (by rw[HZL.out,H4.out];omega) k;rw[Nat.zero_add,HZL.out]at this;rw[this,spl_whole (by rw[List.length_append,HZL.out,H4.out];rfl)]
  rw[e4]at hU4;have F34:Fc 51 (In1 z oz (n+1)) w2 (w2.setCell ⟨z,oz+n,none⟩ (.int .u64 k)):=(Fc.set1 HU.out (j:=n) (by rw[ZL.out];omega) k).mono (fun x i hh _=>by unfold In1 at *;omega)
  have hv4:val 18446744073709551616 (zs++[k])=val 18446744073709551616 xs+val 18446744073709551616 ys:=by
   have h1:=HV.out;rw[List.take_of_length_le (by rw[HN.out];omega)]at h1;rw[val_snoc,HZL.out];exact h1
  have CN:=κ (HFIN.out _ _ hU4 (by rw[List.length_append,HZL.out];rfl) (HZD.out.append (DG.cons hk0 (by omega) (DG.nil _))) hv4 F34);clear hold hU4 e4 hv4 F34 HFIN;go_wp2_with (go_at_call 34;refine(CN.out).mono ?_;rintro e w5 ⟨⟨zs',rfl,HH⟩,rfl⟩);go_ret;exact HH.out
theorem nsubR_ge(A:Option Addr)(l b o c bx ox cx by_ oy cy m n:Nat)(xs ys:List Int)(w:World)(h:Rcv w A b o c)(hlc:l<=c)(hx:Wr 51 w bx ox xs)(hd:DG 18446744073709551616 xs)(hn:xs.length=m)(hy:Wr 51 w by_ oy ys)(hd':DG 18446744073709551616 ys)(hn':ys.length=n)(hl:m<=1000000)(hnm:n<=m)(hn0:0<n)(hcx:m<=cx)(hcy:n<=cy)(hcx9:cx<=9223372036854775807)(hcy9:cy<=9223372036854775807)(hc9:c<=9223372036854775807)
 (hax:Al b o m bx ox m)(hay:Al b o m by_ oy n)(hle:val 18446744073709551616 ys<=val 18446744073709551616 xs):
 Calls Tryz.prog 40 #[.slice A l c,.slice (some ⟨bx,ox,none⟩) m cx,.slice (some ⟨by_,oy,none⟩) n cy] w (ResR w A b o c (In1 b o m) (val 18446744073709551616 xs-val 18446744073709551616 ys)):=by
 have HM:=κ (makeR_any A l b o c m w h hlc (by omega) (by omega));have HX:=κ hx;have HD:=κ hd;have HN:=κ hn;have HY:=κ hy;have HD':=κ hd';have HN':=κ hn';have HR:=κ h;have HAX:=κ hax;have HAY:=κ hay;have HLE:=κ hle;clear hx hd hn hy hd' hn' h hax hay hle;have hm0:((m:Int)==0)=false:=by rw[beq_eq_false_iff_ne];omega
 have hn0':((n:Int)==0)=false:=by rw[beq_eq_false_iff_ne];omega
 go_enter Tryz.func40,Tryz.ntmps40;go_wp2_with (go_at_call 42;refine(HM.out).mono ?_;intro e w1 hm;obtain⟨z,oz,cz,Z,rfl,h1,h2,h3,h4,h5,h6,h7⟩:=hm.out (fun hc=>HR.out.lt hc);have H2:=κ h2;have H3:=κ h3;have H4:=κ h4;have H5:=κ h5;have H6:=κ h6;have H7:=κ h7;have hc3:n<=cz:=(by omega);have hcm:cz<=9223372036854775807:=(by have:=h2.1;unfold maxLen at this;omega);clear hm h2 h3 h4 h5 h6 h7);have AX:=κ (HAX.out.made (w:=w) (H7.out.imp (fun a=>⟨a.2.1,a.2.2.1⟩) (fun a=>a.1)) HX.out.lt);have AY:=κ (HAY.out.made (w:=w) (H7.out.imp (fun a=>⟨a.2.1,a.2.2.1⟩) (fun a=>a.1)) HY.out.lt);have X1:=κ (HX.out.fr0 H5.out);have Y1:=κ (HY.out.fr0 H5.out);have CV:=κ (subVVw_any z oz cz bx ox cx by_ oy cy n (Z.take n) (xs.take n) ys w1.drew (H3.out.take n (by rw[H4.out];omega)).drew (by rw[List.length_take,H4.out];omega) (by rw[List.length_take,HN.out];omega) (X1.out.take n (by rw[HN.out];omega)).drew.src (HD.out.take n) (AX.out.nt hnm (by omega)) HN'.out Y1.out.drew.src HD'.out (AY.out.nt (Nat.le_refl _) (by omega)) (by omega));go_region_with (go_at_call 71;refine(CV.out).mono ?_;rintro e w2 ⟨zs,k,rfl,hz2,f2,hzl,hzd,hk0,hk1,hv⟩;have HZ2:=κ hz2;have F2:=κ f2;have HZL:=κ hzl;have HZD:=κ hzd;have HV:=κ hv;clear hz2 f2 hzl hzd hv);clear CV HM;have F12:=κ (show Fc 51 (In1 z oz m) w1 w2 from F2.out.of_drew.mono (fun x i hh _=>by unfold In1 at *;omega));have HU:=κ (H3.out.upd (i:=0) (zs:=zs) HZ2.out (by rw[HZL.out];exact F2.out.of_drew) (by rw[HZL.out,H4.out];omega));have ZL:=κ (show(spl Z 0 zs).length=m by rw[spl_len (by rw[HZL.out,H4.out];omega),H4.out]);have R2:=κ (H2.out.fc F12.out)
 have FIN: ∀(us:List Int) (w3:World),Wr 51 w3 z oz us->us.length=m->DG 18446744073709551616 us->val 18446744073709551616 us=val 18446744073709551616 xs-val 18446744073709551616 ys->Fc 51 (In1 z oz m) w2 w3->Calls Tryz.prog 34 #[.slice (some ⟨z,oz,none⟩) m cz] w3 fun e w'=>(∃zs:List Int,e= .returned (.slice (some ⟨z,oz,none⟩) zs.length cz)/\Hid (ResR w A b o c (In1 b o m) (val 18446744073709551616 xs-val 18446744073709551616 ys) e w3))/\w3=w':=by
  intro us w3 hus hul hud huv f3;have C:=normN_any (some ⟨z,oz,none⟩) z oz cz us w3 (Nm.of_wr hus (R2.out.fc f3) (by omega)) hud;rw[hul]at C;refine C.mono ?_;rintro e w' ⟨⟨zs',rfl,g1,g2,g3,g4,g5⟩,rfl⟩;exact⟨⟨zs',rfl,κ ⟨_,z,oz,cz,zs',rfl,g1,g2,g3,g4.trans huv,H7.out.imp id (fun a=>⟨a.1,by have:=a.2;omega⟩),(Fc.fr0 H5.out _ _).trans (F12.out.t f3) H6.out⟩⟩,rfl⟩
 have HFIN:=κ FIN;clear FIN;by_cases hmn:n<m
 ·have hmn':(n:Int)<(m:Int):=by omega
  have hXw:Wr 51 w2 bx (ox+n) (xs.drop n):=by
   have hXd:=X1.out.drop n (by rw[HN.out];omega);refine hXd.fc F2.out.of_drew ?_;rw[List.length_drop,HN.out];have:=AX.out;intro i g1 g2 ⟨g3,g4,g5⟩;unfold Al Dj at this;omega
  have CW:=κ (subVWw_any z (oz+n) (cz-n) bx (ox+n) (cx-n) (m-n) (((spl Z 0 zs).drop n).take (m-n)) (xs.drop n) k w2.drew (by
   have:=(HU.out.sub n (m-n) (by rw[ZL.out];omega)).drew;exact this) (by rw[List.length_take,List.length_drop,ZL.out];omega) (by rw[List.length_drop,HN.out]) hXw.drew (HD.out.drop n) (by have:=AX.out;unfold Al Dj at *;omega) (by omega) (by omega) (by omega) (by omega) (by unfold maxLen;omega) (by unfold maxLen;omega) hk0 (by omega));have hczn: ¬cz=n:=by omega
  have hcxn: ¬cx=n:=by omega
  clear hXw;go_wp2_with fail;go_region_with (go_at_call 72;refine(CW.out).mono ?_;rintro e w3 ⟨zs2,k2,rfl,hz3,f3,hzl2,hzd2,hk20,hk21,hv2⟩;have HZ3:=κ hz3;have F3:=κ f3;have HZL2:=κ hzl2;have HZD2:=κ hzd2;have HV2:=κ hv2;clear hz3 f3 hzl2 hzd2 hv2);have hU3:=HU.out.upd (i:=n) (zs:=zs2) HZ3.out (by rw[HZL2.out];exact F3.out.of_drew) (by rw[HZL2.out,ZL.out];omega)
  have e3:spl (spl Z 0 zs) n zs2=spl Z 0 (zs++zs2):=by
   have:=spl_app (L:=Z) (o:=0) (cs:=zs) (ds:=zs2) (by rw[HZL.out,H4.out];omega);rwa[Nat.zero_add,HZL.out]at this
  have hl4:(zs++zs2).length=m:=by rw[List.length_append,HZL.out,HZL2.out];omega
  rw[e3,spl_whole (by rw[hl4,H4.out])]at hU3
  have hv4:val 18446744073709551616 (zs++zs2)+val 18446744073709551616 ys=val 18446744073709551616 xs+18446744073709551616^m*k2:=by
   have e:=val_split 18446744073709551616 xs n (by rw[HN.out];omega);have h1:=HV.out;have h2:=HV2.out;have e2:(18446744073709551616:Int)^m=18446744073709551616^n*18446744073709551616^(m-n):=by rw[<-Int.pow_add];congr 1;omega
   rw[val_append,HZL.out,e,e2];grind
  obtain rfl:k2=0:=no_borrow (HZD.out.append HZD2.out) (by omega) hl4 hk20 hv4 HLE.out;rw[Int.mul_zero,Int.add_zero]at hv4;have CN:=κ (HFIN.out _ _ hU3 hl4 (HZD.out.append HZD2.out) (by omega) (F3.out.of_drew.mono (fun x i hh _=>by unfold In1 at *;omega)));clear hU3 e3 hl4 hv4 CW HFIN HV2;go_wp2_with (go_at_call 34;refine(CN.out).mono ?_;rintro e w5 ⟨⟨zs',rfl,HH⟩,rfl⟩);go_ret;exact HH.out
 ·obtain rfl:n=m:=by omega
  have hU3:=HU.out;rw[spl_whole (by rw[HZL.out,H4.out])]at hU3;have hv4:=HV.out;rw[List.take_of_length_le (by rw[HN.out];omega)]at hv4;obtain rfl:k=0:=no_borrow HZD.out (by omega) HZL.out hk0 hv4 HLE.out;rw[Int.mul_zero,Int.add_zero]at hv4;have CN:=κ (HFIN.out _ _ hU3 HZL.out HZD.out (by omega) (Fc.refl _ _ _));clear hU3 hv4 HFIN HV;go_wp2_with (go_at_call 34;refine(CN.out).mono ?_;rintro e w5 ⟨⟨zs',rfl,HH⟩,rfl⟩);go_ret;exact HH.out
theorem ResR.mono{w:World}{A:Option Addr}{b o c:Nat}{S S':Nat->Nat->Prop}{V:Int}{e:Ending}{w':World}(h:ResR w A b o c S V e w')(hS: ∀x i,S x i->S' x i):ResR w A b o c S' V e w':=by
 obtain⟨A',b',o',c',zs,h1,h2,h3,h4,h5,h6,h7⟩:=h;exact⟨A',b',o',c',zs,h1,h2,h3,h4,h5,h6,h7.mono (fun x i hh _=>hS x i hh)⟩
theorem Al.le{b o k k' bx ox m:Nat}(h:Al b o k' bx ox m)(hk:k<=k'):Al b o k bx ox m:=by unfold Al Dj at *;omega
theorem naddR_le(A:Option Addr)(l b o c:Nat)(Ax:Option Addr)(bx ox cx:Nat)(xs:List Int)(Ay:Option Addr)(by_ oy cy:Nat)(ys:List Int)(w:World)(h:Rcv w A b o c)(hlc:l<=c)(hx:Nm w Ax bx ox cx xs)(hd:DG 18446744073709551616 xs)(hzx:NZ xs)(hy:Nm w Ay by_ oy cy ys)(hd':DG 18446744073709551616 ys)(hl:xs.length<=1000000)(hnm:ys.length<=xs.length)(hcx9:cx<=9223372036854775807)(hcy9:cy<=9223372036854775807)(hc9:c<=9223372036854775807)
 (hax:0<xs.length->Al b o (xs.length+1) bx ox xs.length)(hay:0<ys.length->Al b o (xs.length+1) by_ oy ys.length):
 Calls Tryz.prog 27 #[.slice A l c,.slice Ax xs.length cx,.slice Ay ys.length cy] w (ResR w A b o c (In1 b o (xs.length+1)) (val 18446744073709551616 xs+val 18446744073709551616 ys)):=by
 by_cases h0:0<ys.length
 ·obtain rfl:=hx.addr (by omega)
  obtain rfl:=hy.addr (by omega);exact naddR_ge A l b o c bx ox cx by_ oy cy xs.length ys.length xs ys w h hlc (hx.wr (by omega)) hd rfl (hy.wr h0) hd' rfl hl hnm h0 hx.le hy.le hcx9 hcy9 hc9 (hax (by omega)) (hay h0)
 ·have hys:ys=[]:=List.eq_nil_of_length_eq_zero (by omega)
  subst hys;rw[val_nil,Int.add_zero];have H:=κ h;have hcm:c<=9223372036854775807:=by have:=h.1;unfold maxLen at this;omega
  by_cases h1:xs.length=0
  ·have hxs:xs=[]:=List.eq_nil_of_length_eq_zero h1
   subst hxs;simp only[List.length_nil]at*;rw[val_nil];clear hx hd hzx hy hd' h0 h1 hax hay h;go_enter Tryz.func27,Tryz.ntmps27;go_wp2_with fail;go_ret;exact⟨A,b,o,c,[],rfl,Nm.nil H.out,DG.nil _,NZ.nil,rfl,.inl ⟨rfl,rfl,rfl,rfl⟩,Fc.refl _ _ _⟩
  ·have hm0:((xs.length:Int)==0)=false:=by rw[beq_eq_false_iff_ne];omega
   have C:=κ ((setR_any A l b o c Ax bx ox cx xs w hx hd hzx h hlc (by omega) hl).mono fun e w' h=>h.mono (S':=In1 b o (xs.length+1)) (fun x i hh=>by unfold In1 at *;omega));simp only[List.length_nil]at*;clear hx hd hzx hy hd' h0 h1 hax hay h;go_enter Tryz.func27,Tryz.ntmps27;go_wp2_with (go_at_call 41;refine(C.out).mono ?_;intro e w1 hm;have HM:=κ hm;obtain⟨A',b',o',c',zs,rfl,_⟩:=hm);go_ret;exact HM.out
theorem naddR_any(k:Nat)(A:Option Addr)(l b o c:Nat)(Ax:Option Addr)(bx ox cx:Nat)(xs:List Int)(Ay:Option Addr)(by_ oy cy:Nat)(ys:List Int)(w:World)(h:Rcv w A b o c)(hlc:l<=c)(hx:Nm w Ax bx ox cx xs)(hd:DG 18446744073709551616 xs)(hzx:NZ xs)(hy:Nm w Ay by_ oy cy ys)(hd':DG 18446744073709551616 ys)(hzy:NZ ys)(hl:xs.length<k)(hl':ys.length<k)(hk:k<=1000000)(hcx9:cx<=9223372036854775807)(hcy9:cy<=9223372036854775807)(hc9:c<=9223372036854775807)
 (hax:0<xs.length->Al b o k bx ox xs.length)(hay:0<ys.length->Al b o k by_ oy ys.length):
 Calls Tryz.prog 27 #[.slice A l c,.slice Ax xs.length cx,.slice Ay ys.length cy] w (ResR w A b o c (In1 b o k) (val 18446744073709551616 xs+val 18446744073709551616 ys)):=by
 by_cases hnm:ys.length<=xs.length
 ·exact(naddR_le A l b o c Ax bx ox cx xs Ay by_ oy cy ys w h hlc hx hd hzx hy hd' (by omega) hnm hcx9 hcy9 hc9 (fun hp=>(hax hp).le (by omega)) (fun hp=>(hay hp).le (by omega))).mono fun e w' h=>h.mono (fun x i hh=>by unfold In1 at *;omega)
 ·have C:=κ ((naddR_le A l b o c Ay by_ oy cy ys Ax bx ox cx xs w h hlc hy hd' hzy hx hd (by omega) (by omega) hcy9 hcx9 hc9 (fun hp=>(hay hp).le (by omega)) (fun hp=>(hax hp).le (by omega))).mono fun e w' h=>h.mono (S':=In1 b o k) (fun x i hh=>by unfold In1 at *;omega))
  rw[Int.add_comm]at C;have hlt:xs.length<ys.length:=by omega
  obtain⟨m,hm⟩: ∃m,m=xs.length:=⟨_,rfl⟩;obtain⟨n,hn⟩: ∃n,n=ys.length:=⟨_,rfl⟩;rw[<-hm,<- hn]at C hlt ⊢
  have hlI:(m:Int)<(n:Int):=by omega
  have hcm:c<=9223372036854775807:=by have:=h.1;unfold maxLen at this;omega
  clear hx hd hzx hy hd' hzy hax hay h hl hl' hnm hm hn;go_enter Tryz.func27,Tryz.ntmps27;go_wp2_with (go_at_call 27;refine(C.out).mono ?_;intro e w1 hm;have HM:=κ hm;obtain⟨A',b',o',c',zs,rfl,_⟩:=hm);go_ret;exact HM.out
theorem nsubR_any(k:Nat)(A:Option Addr)(l b o c:Nat)(Ax:Option Addr)(bx ox cx:Nat)(xs:List Int)(Ay:Option Addr)(by_ oy cy:Nat)(ys:List Int)(w:World)(h:Rcv w A b o c)(hlc:l<=c)(hx:Nm w Ax bx ox cx xs)(hd:DG 18446744073709551616 xs)(hzx:NZ xs)(hy:Nm w Ay by_ oy cy ys)(hd':DG 18446744073709551616 ys)(hzy:NZ ys)(hl:xs.length<=k)(hk:k<=1000000)(hcx9:cx<=9223372036854775807)(hcy9:cy<=9223372036854775807)(hc9:c<=9223372036854775807)
 (hax:0<xs.length->Al b o k bx ox xs.length)(hay:0<ys.length->Al b o k by_ oy ys.length)(hle:val 18446744073709551616 ys<=val 18446744073709551616 xs):
 Calls Tryz.prog 40 #[.slice A l c,.slice Ax xs.length cx,.slice Ay ys.length cy] w (ResR w A b o c (In1 b o k) (val 18446744073709551616 xs-val 18446744073709551616 ys)):=by
 have hnm:ys.length<=xs.length:=by
  rcases Nat.lt_or_ge xs.length ys.length with h|h
  ·have:=lt_of_shorter (by omega) hd hd' hzy h;omega
  ·exact h
 by_cases h0:0<ys.length
 ·obtain rfl:=hx.addr (by omega)
  obtain rfl:=hy.addr (by omega);exact(nsubR_ge A l b o c bx ox cx by_ oy cy xs.length ys.length xs ys w h hlc (hx.wr (by omega)) hd rfl (hy.wr h0) hd' rfl (by omega) hnm h0 hx.le hy.le hcx9 hcy9 hc9 ((hax (by omega)).le hl) ((hay h0).le hl) hle).mono fun e w' h=>h.mono (fun x i hh=>by unfold In1 at *;omega)
 ·have hys:ys=[]:=List.eq_nil_of_length_eq_zero (by omega)
  subst hys;rw[val_nil,Int.sub_zero];have H:=κ h;have hcm:c<=9223372036854775807:=by have:=h.1;unfold maxLen at this;omega
  by_cases h1:xs.length=0
  ·have hxs:xs=[]:=List.eq_nil_of_length_eq_zero h1
   subst hxs;simp only[List.length_nil]at*;rw[val_nil];clear hx hd hzx hy hd' h0 h1 hax hay h hle;go_enter Tryz.func40,Tryz.ntmps40;go_wp2_with fail;go_ret;exact⟨A,b,o,c,[],rfl,Nm.nil H.out,DG.nil _,NZ.nil,rfl,.inl ⟨rfl,rfl,rfl,rfl⟩,Fc.refl _ _ _⟩
  ·have hm0:((xs.length:Int)==0)=false:=by rw[beq_eq_false_iff_ne];omega
   have C:=κ ((setR_any A l b o c Ax bx ox cx xs w hx hd hzx h hlc (by omega) (by omega)).mono fun e w' h=>h.mono (S':=In1 b o k) (fun x i hh=>by unfold In1 at *;omega));simp only[List.length_nil]at*;clear hx hd hzx hy hd' h0 h1 hax hay h hle;go_enter Tryz.func40,Tryz.ntmps40;go_wp2_with (go_at_call 41;refine(C.out).mono ?_;intro e w1 hm;have HM:=κ hm;obtain⟨A',b',o',c',zs,rfl,_⟩:=hm);go_ret;exact HM.out
end Go.Proofs.YthecibbmbnpegaaGreatDoor
