/-
  Part 19 of the proof of the law FnExpSum: XgDr. Conditions: those of each statement.
-/
import Derived.Test.YthecibbmbnpegaaGreatDoorK12
import Derived.Test.YthecibbmbnpegaaGreatDoorK17
import Derived.Test.YthecibbmbnpegaaGreatDoorK18
import Derived.Laws.Bits64
set_option linter.unusedSimpArgs false
set_option linter.unusedVariables false
set_option maxRecDepth 100000
set_option maxHeartbeats 4000000
section
namespace Go.Big
theorem dm_uniq{U V q r:Int}(h:U=q*V+r)(h0:0<=r)(h1:r<V):U/V=q/\U%V=r:=by
 have hV:0<V:=by omega
 have e1:U/V=q:=by
  rw[h,Int.add_comm,Int.add_mul_ediv_right _ _ (by omega),Int.ediv_eq_zero_of_lt h0 h1,Int.zero_add]
 refine⟨e1,?_⟩;have:=Int.emod_add_mul_ediv U V;rw[e1,Int.mul_comm]at this;omega
theorem dr_fit{P V V1 V0 uu uhi ulo qh rem:Int}(hV:V=V1*P+V0)(h0:0<=V0)(hu:uu=uhi*P+ulo)(hl:0<=ulo)(hl':ulo<P)(hq:uhi=qh*V1+rem)(hq0:0<=qh)(hr1:rem<V1)(hP:0<P)(hc:qh*V0<=rem*P+ulo):uu/V=qh/\uu%V=rem*P+ulo-qh*V0:=by
 have h1:(rem+1)*P<=V1*P:=Int.mul_le_mul_of_nonneg_right (by omega) (by omega);rw[Int.add_mul,Int.one_mul]at h1;have h2:=Int.mul_nonneg hq0 h0;exact dm_uniq (by rw[hu,hq,hV];grind) (by omega) (by omega)
theorem dr_over{P V V1 V0 uu uhi ulo qh rem:Int}(hV:V=V1*P+V0)(hu:uu=uhi*P+ulo)(hl:0<=ulo)(hq:uhi=qh*V1+rem)(hr0:0<=rem)(hP:0<P)(hc:rem*P+ulo<qh*V0)(he:qh*V0<=V):uu/V=qh-1/\uu%V=rem*P+ulo+V1*P-(qh*V0-V0)/\qh*V0-V0<=rem*P+ulo+V1*P:=by
 have h3:=Int.mul_nonneg hr0 (Int.le_of_lt hP);have:=dm_uniq (U:=uu) (V:=V) (q:=qh-1) (r:=rem*P+ulo+V1*P-(qh*V0-V0)) (by rw[hu,hq,hV];grind) (by omega) (by omega);exact⟨this.1,this.2,by omega⟩
theorem dr_guess{n B:Nat}{V V1 V0 uu uhi ulo qh rem:Int}(hB:1<=B)(hn:2*B<=n)(hV:V=V1*18446744073709551616^(B-1)+V0)(h0:0<=V0)(h0':V0<18446744073709551616^(B-1))(hV1:9223372036854775808*18446744073709551616^(n-B)<=V1)
 (hu:uu=uhi*18446744073709551616^(B-1)+ulo)(hl:0<=ulo)(huu:uu<18446744073709551616^(n+B))(hq:uhi=qh*V1+rem)(hr0:0<=rem)(hq0:0<=qh):
 qh<2*18446744073709551616^B/\qh*V0<=V/\qh*V0<18446744073709551616^(2*B):=by
 obtain⟨P,hP⟩: ∃P,P=(18446744073709551616:Int)^(B-1):=⟨_,rfl⟩;obtain⟨R,hR⟩: ∃R,R=(18446744073709551616:Int)^(n-B):=⟨_,rfl⟩;have hP0:0<P:=by rw[hP];exact pow_pos_ (by omega) _
 have hR0:0<R:=by rw[hR];exact pow_pos_ (by omega) _
 have eB:(18446744073709551616:Int)^B=18446744073709551616*P:=by rw[hP,show B=(B-1)+1 by omega,Int.pow_succ,Nat.add_sub_cancel,Int.mul_comm]
 have eN:(18446744073709551616:Int)^(n+B)=R*(18446744073709551616*P)*(18446744073709551616*P):=by
  rw[show n+B=(n-B)+B+B by omega,Int.pow_add,Int.pow_add,eB,hR]
 have e2:(18446744073709551616:Int)^(2*B)=(18446744073709551616*P)*(18446744073709551616*P):=by
  rw[show 2*B=B+B by omega,Int.pow_add,eB]
 have hle:18446744073709551616*P<=R:=by
  rw[<-eB,hR];exact pow_le_pow_ (by omega) (by omega)
 rw[<-hP]at hV h0' hu;rw[<-hR]at hV1;rw[eN]at huu;rw[eB,e2];have a1:9223372036854775808*R*P<=V1*P:=Int.mul_le_mul_of_nonneg_right hV1 (by omega)
 have hq1:qh<2*(18446744073709551616*P):=by
  rcases Int.lt_or_le qh (2*(18446744073709551616*P))with h|h
  ·exact h
  ·exfalso
   have b1:2*(18446744073709551616*P)*(9223372036854775808*R*P)<=qh*(V1*P):=by
    have c1:2*(18446744073709551616*P)*(9223372036854775808*R*P)<=qh*(9223372036854775808*R*P):=Int.mul_le_mul_of_nonneg_right h (by have:=Int.mul_pos hR0 hP0;rw[Int.mul_assoc];omega);have c2:qh*(9223372036854775808*R*P)<=qh*(V1*P):=Int.mul_le_mul_of_nonneg_left a1 hq0;omega
   have b2:2*(18446744073709551616*P)*(9223372036854775808*R*P)=R*(18446744073709551616*P)*(18446744073709551616*P):=by grind
   have b3:qh*(V1*P)+rem*P=uhi*P:=by rw[hq];grind
   have b4:=Int.mul_nonneg hr0 (Int.le_of_lt hP0);omega
 have hPR:P*P<=R*P:=Int.mul_le_mul_of_nonneg_right (by omega) (by omega);have d1:qh*V0<=qh*P:=Int.mul_le_mul_of_nonneg_left (by omega) hq0;have d2:qh*P<=2*(18446744073709551616*P)*P:=Int.mul_le_mul_of_nonneg_right (by omega) (by omega)
 have d3:2*(18446744073709551616*P)*P<=2*(R*P):=by
  have:18446744073709551616*P*P<=R*P:=Int.mul_le_mul_of_nonneg_right hle (by omega);have e:2*(18446744073709551616*P)*P=2*(18446744073709551616*P*P):=by grind
  omega
 have hRP:=Int.mul_pos hR0 hP0;have hPP:=Int.mul_pos hP0 hP0;have d4:9223372036854775808*R*P=9223372036854775808*(R*P):=by grind
 have d5:2*(18446744073709551616*P)*P=36893488147419103232*(P*P):=by grind
 have d6:18446744073709551616*P*(18446744073709551616*P)=340282366920938463463374607431768211456*(P*P):=by grind
 exact⟨hq1,by omega,by omega⟩
theorem KnV.drop{n i:Nat}{V:List Int}(h:KnV n V)(hi:i+2<=n):KnV (n-i) (V.drop i):=
 ⟨by rw[List.length_drop,h.len],by omega,h.dg.drop i,by rw[getD_drop,show i+(n-i-1)=n-1 by omega];exact h.top⟩
end Go.Big
end
section
namespace Go.Proofs.YthecibbmbnpegaaGreatDoor
open Go.Big Go.RowKit
attribute [local go_sem ↓] Go.wp_at_zero Go.wp_at_succ
def DrPost(s:Nat)(q:Option StkSt)(bz oz lz bu ou lu:Nat)(U V:Int)(w:World)(e:Ending)(w':World):Prop:=
 ∃q' Z' U',e= .returned (.tuple #[])/\StkAt w' s q'/\StkLe w.heap.size q q'/\lenS q'=lenS q/\Wr 51 w' bz oz Z'/\Z'.length=lz/\DG 18446744073709551616 Z'/\val 18446744073709551616 Z'=U/V/\
  Wr 51 w' bu ou U'/\U'.length=lu/\DG 18446744073709551616 U'/\val 18446744073709551616 U'=U%V/\Fc 51 (fun b i=>StS s q b i\/In1 bz oz lz b i\/In1 bu ou lu b i) w w'
structure DrPre(n lu lz s:Nat)(q:Option StkSt)(bz oz cz bu ou cu bv ov cv:Nat)(U V:List Int)(w:World):Prop where
 st:StkAt w s q
 len:lenS q+10000*(n+1)<=100000000000
 thr:Glo w 0 40
 td:Glo w 1 40
 z:Wr 51 w bz oz (List.replicate lz 0)
 u:Wr 51 w bu ou U
 ul:U.length=lu
 ud:DG 18446744073709551616 U
 v:Nm w (some ⟨bv,ov,none⟩) bv ov cv V
 kv:KnV n V
 fit:val 18446744073709551616 U<9223372036854775808*18446744073709551616^(n+lz-1)
 few:n<=900
 lz9:lz<=100000
 lu9:lu<=100000
 cz1:lz<=cz
 cz9:cz<=9223372036854775807
 cu1:lu<=cu
 cu9:cu<=9223372036854775807
 cv9:cv<=9223372036854775807
 dvu:Dj bv ov n bu ou lu
 dzu:Dj bz oz lz bu ou lu
 dvz:Dj bv ov n bz oz lz
 oz_:Off (StS s q) bz oz lz
 ou_:Off (StS s q) bu ou lu
 ov_:Off (StS s q) bv ov cv
def DrOK(n:Nat):Prop:= ∀(lu lz s:Nat) (q:Option StkSt) (bz oz cz bu ou cu bv ov cv:Nat) (U V:List Int) (d:Int) (w:World),
 DrPre n lu lz s q bz oz cz bu ou cu bv ov cv U V w->
  Calls Tryz.prog 114 #[.slice (some ⟨bz,oz,none⟩) lz cz,.pointer (some ⟨s,0,none⟩),.slice (some ⟨bu,ou,none⟩) lu cu,.slice (some ⟨bv,ov,none⟩) n cv,.int .i64 d] w (DrPost s q bz oz lz bu ou lu (val 18446744073709551616 U) (val 18446744073709551616 V) w)
def SamePost(s:Nat)(q:Option StkSt)(w:World)(e:Ending)(w':World):Prop:=
 ∃q',e= .returned (.tuple #[])/\StkAt w' s q'/\StkLe w.heap.size q q'/\lenS q'=lenS q/\Fc 51 (StS s q) w w'
theorem divBasic_few(s:Nat)(q:Option StkSt)(A:Option Addr)(lq cq:Nat)(Au:Option Addr)(cu bv ov cv n lu:Nat)(V:List Int)(w:World)(hst:StkAt w s q)(hlen:lenS q<=100000000000)
 (hV:Go.Big.Src .u64 w bv ov V)(hVk:KnV n V)(hn9:n<=10000000)(hlu:lu<n)(oV:Off (StS s q) bv ov n)(hcu:lu<=cu)(hcu9:cu<=maxLen)(hcv:n<=cv)(hcv9:cv<=maxLen):
 Calls Tryz.prog 78 #[.slice A lq cq,.pointer (some ⟨s,0,none⟩),.slice Au lu cu,.slice (some ⟨bv,ov,none⟩) n cv] w (SamePost s q w):=by
 unfold maxLen at hcu9 hcv9;have hn2:=hVk.two;obtain⟨N1,hN1⟩: ∃N1,N1=n+1:=⟨_,rfl⟩;obtain⟨n1,hn1⟩: ∃n1,n1=n-1:=⟨_,rfl⟩;have a1:(n:Int)+1=(N1:Int):=by omega
 have a2:(n:Int)-1=(n1:Int):=by omega
 have a4: ¬(0:Int)<=(lu:Int)-(n:Int):=by omega
 have hn1n:(n1:Int)<(n:Int):=by omega
 have CS:=κ (save_any s q w hst);have CN:=κ (nat_any s N1 q w hst (by omega) (by omega) hlen);obtain⟨v1,hv1⟩: ∃v1,v1=V.getD (n-1) 0:=⟨_,rfl⟩;have hv1b:9223372036854775808<=v1/\v1<18446744073709551616:=by rw[hv1];exact⟨hVk.top,hVk.bd.1⟩
 obtain⟨hv10,hv11⟩:=hv1b;have hL:IsLen v1 64:= .inr ⟨by omega,by simpa using hv10,by simpa using hv11⟩;have CR:=κ (fun W=>recip_any v1 64 W (by omega) hv11 hL);have HV1:=κ hv1;have HVL:=κ hVk.len;have HV:=κ hV;have OV:=κ oV;have HN11:=κ hn1;clear hv1 hL hVk hN1 hn1 hV oV hst;go_enter_defers Tryz.func78,Tryz.ntmps78;refine wp_mono ?_ bodyPostN_D
 go_wp2_with (first
  |(go_at_call 54;refine(Hid.out CS).mono ?_;rintro e w1 ⟨rfl,rfl⟩)
  |(go_at_call 55;refine(Hid.out CN).mono ?_;clear CN;rintro e w1 ⟨b,o,ch,q1,rfl,hch,hch9,hH,hst1,hle1,hl1,hl1',hf1,hnw,hoff⟩;have cv1:=(HV.out.fc hf1 (by rw[HVL.out];exact OV.out)) n1 (by rw[HVL.out];have:=HN11.out;omega);rw[HN11.out,<- HV1.out,<- HN11.out]at cv1;have HST1:=κ hst1;have HLE1:=κ hle1;have HF1:=κ hf1;clear hH hst1 hle1 hf1 hnw hoff)
  |(go_at_call 110;refine(CR.out _).mono ?_;rintro e w2 ⟨rfl,f2⟩));go_loopg [14] 1 (fun g jv wr=>jv= .int .i64 ((lu:Int)-(n:Int))/\Fr [] w1 wr);case atStart=>exact⟨rfl,f2⟩
 case round=>
  obtain⟨rfl,hf⟩:=hrel;go_wp2_with fail;show Leaves _ _ _ _ _ _ _;have st2:=HST1.out.fr0 hf
  have hcap: ∀p,q1=some p->lenS q<=p.cap:=fun p hp=>by
   subst hp;have h3:=HST1.out.2.2.2.1;have e:lenS (some p)=p.len:=rfl;omega
  refine leaves_cons (f:=53) (args:= #[.pointer (some ⟨s,0,none⟩),.int .i64 ((lenS q:Nat):Int)]) (by simp) (by simp[go_sem]) ?_;refine(restore_deferred s (lenS q) q1 .returning _ st2 hcap).mono ?_;rintro e u' w3 ⟨rfl,rfl,hst10,hf10⟩;refine⟨_,results_none rfl _ _ _,_,rfl,hst10,HLE1.out.res,lenS_res (fun hh=>by rw[hh]at hl1;have e:lenS none=0:=rfl;omega),?_⟩;exact(HF1.out.t (Fc.fr0 hf _ _)).trans hf10 (fun b i hb hlt=>HLE1.out.sub hl1 b i hb hlt)
theorem cut_ex(xs:List Int): ∀k,k<=xs.length->(∀j,k<=j->j<xs.length->xs.getD j 0=0)-> ∃i,CutAt xs i:=by
 intro k;induction k with
 |zero=>exact fun h1 h2=>⟨0,Nat.zero_le _,.inl rfl,h2⟩
 |succ k ih=>
  intro h1 h2;by_cases e:xs.getD k 0=0
  ·exact ih (by omega) (fun j h3 h4=>by
    by_cases e2:j=k
    ·subst e2;exact e
    ·exact h2 j (by omega) h4)
  ·exact⟨k+1,h1,.inr (by rw[Nat.add_sub_cancel];exact e),h2⟩
theorem cut_at(xs:List Int): ∃i,CutAt xs i:=cut_ex xs xs.length (Nat.le_refl _) (fun j h1 h2=>by omega)
theorem cut_uniq{xs:List Int}{i j:Nat}(h:CutAt xs i)(h':CutAt xs j):i=j:=by
 obtain⟨a1,a2,a3⟩:=h;obtain⟨b1,b2,b3⟩:=h';rcases Nat.lt_trichotomy i j with hh|hh|hh
 ·rcases b2 with b2|b2
  ·omega
  ·exact absurd (a3 (j-1) (by omega) (by omega)) b2
 ·exact hh
 ·rcases a2 with a2|a2
  ·omega
  ·exact absurd (b3 (i-1) (by omega) (by omega)) a2
theorem cut_drop{xs:List Int}{i:Nat}(h:CutAt xs i):val 18446744073709551616 (xs.drop i)=0:=by
 obtain⟨a1,a2,a3⟩:=h
 have e:xs.drop i=List.replicate (xs.length-i) 0:=by
  apply List.ext_getElem (by rw[List.length_drop,List.length_replicate]);intro j h1 h2;rw[List.length_drop]at h1;have:=a3 (i+j) (by omega) (by omega);rw[Go.Big.getD_in (show i+j<xs.length by omega)]at this;rw[List.getElem_drop,List.getElem_replicate,this]
 rw[e,val_rep]
theorem normD_any(b o c i:Nat)(xs:List Int)(w:World)(h:Go.Big.Src .u64 w b o xs)(hl:xs.length<=c)(hc:c<=maxLen)(hi:CutAt xs i):
 Calls Tryz.prog 34 #[.slice (some ⟨b,o,none⟩) xs.length c] w fun e w'=>e= .returned (.slice (some ⟨b,o,none⟩) i c)/\w=w':=by
 refine(bnorm_any (some ⟨b,o,none⟩) c xs w hl hc (fun _=>⟨b,o,rfl,h⟩)).mono ?_;rintro e w' ⟨j,hj,rfl,rfl⟩;obtain rfl:=cut_uniq hi hj;exact⟨rfl,rfl⟩
theorem knv_cut{n:Nat}{V:List Int}(h:KnV n V):CutAt V n:=by
 have h2:=h.two;have h3:=h.top;exact⟨Nat.le_of_eq h.len.symm,.inr (by omega),fun j a b=>by rw[h.len]at b;omega⟩
section
variable {n lu lz s i:Nat}{q:Option StkSt}{bz oz cz bu ou cu bv ov cv:Nat}{U V:List Int}{w w':World}
theorem DrPost.full{X Y:Int}{e:Ending}(h:DrPost s q bz oz lz bu ou i X Y w e w')(hu:Wr 51 w bu ou U)(hl:U.length=lu)(hd:DG 18446744073709551616 U)(hi:CutAt U i)(dzu:Dj bz oz lz bu ou lu)(ou_:Off (StS s q) bu ou lu):DrPost s q bz oz lz bu ou lu X Y w e w':=by
 obtain⟨q',Z',U',rfl,h1,h2,h3,h4,h5,h6,h7,h8,h9,h10,h11,h12⟩:=h;have hil:=hi.1;rw[hl]at hil
 have hW:=hu.upd2 (i:=0) (zs:=U') h8 h12 (fun j a1 a2 a3 hh=>by
  rw[hl]at a2;rw[h9]at a3;rcases hh with hh|hh|hh
  ·exact ou_ j a1 a2 hh
  ·exact dzu.symm.off j a1 a2 hh
  ·exact a3 ⟨by omega,by have:=hh.2.2;omega⟩) (by omega);refine⟨q',Z',spl U 0 U',rfl,h1,h2,h3,h4,h5,h6,h7,hW,by rw[spl_len (by omega),hl],spl_dg hd h10,?_,h12.mono (fun b j hh _=>hh.imp id (fun hh=>hh.imp id (fun hh=>⟨hh.1,hh.2.1,by have:=hh.2.2;omega⟩)))⟩;rw[val_spl (by omega),h9,List.drop_zero,val_cut _ hi.1 hi.2.2,h11];omega
theorem DrPre.vn(h:DrPre n lu lz s q bz oz cz bu ou cu bv ov cv U V w):n<=cv:=by
 have:=h.v.le;rwa[h.kv.len]at this
theorem div_few{X Y:Int}(h0:0<=X)(h1:X<Y):X/Y=0/\X%Y=X:=⟨Int.ediv_eq_zero_of_lt h0 h1,Int.emod_eq_of_lt h0 h1⟩
theorem DrPre.ulen(h:DrPre n lu lz s q bz oz cz bu ou cu bv ov cv U V w)(hi:CutAt U i):i<=n+lz:=by
 obtain⟨h1,h2,h3,h4⟩:=cut_facts h.ud hi;have:=h.fit;have hn:=h.kv.two;rw[<-h1];refine len_le (by omega) h2 h3 ?_;rw[h4,show n+lz=(n+lz-1)+1 by omega,Int.pow_succ];have:=pow_pos_ (B:=18446744073709551616) (by omega) (n+lz-1);omega
theorem DrPre.uq(h:DrPre n lu lz s q bz oz cz bu ou cu bv ov cv U V w):val 18446744073709551616 U<val 18446744073709551616 V*18446744073709551616^lz:=by
 have h1:=h.fit;have h2:=h.kv.lo;have hn:=h.kv.two;have hp:=pow_pos_ (B:=18446744073709551616) (by omega) lz;have h3:9223372036854775808*18446744073709551616^(n-1)*18446744073709551616^lz<=val 18446744073709551616 V*18446744073709551616^lz:=Int.mul_le_mul_of_nonneg_right h2 (by omega);rw[Int.mul_assoc,<- Int.pow_add,show n-1+lz=n+lz-1 by omega]at h3;omega
theorem dr_zero(d:Int)(h:DrPre n lu lz s q bz oz cz bu ou cu bv ov cv U V w)(hi:CutAt U 0):
 Calls Tryz.prog 114 #[.slice (some ⟨bz,oz,none⟩) lz cz,.pointer (some ⟨s,0,none⟩),.slice (some ⟨bu,ou,none⟩) lu cu,.slice (some ⟨bv,ov,none⟩) n cv,.int .i64 d] w (DrPost s q bz oz lz bu ou lu (val 18446744073709551616 U) (val 18446744073709551616 V) w):=by
 have H:=κ h;have hvn:=h.vn;have cz1:=h.cz1;have cz9:=h.cz9;have cu1:=h.cu1;have cu9:=h.cu9;have cv9:=h.cv9;have CU:=normD_any bu ou cu 0 U w h.u.src (by rw[h.ul];exact cu1) (by unfold maxLen;omega) hi;have CV:=normD_any bv ov cv n V w (h.v.2.2 (by rw[h.kv.len];have:=h.kv.two;omega)) (by rw[h.kv.len];exact hvn) (by unfold maxLen;omega) (knv_cut h.kv);rw[h.ul]at CU;rw[h.kv.len]at CV;have HCU:=κ CU;have HCV:=κ CV;have HI:=κ hi;obtain⟨L,hL,hLl⟩:=h.z.2;rw[List.length_replicate]at hLl;have HL:=κ hL;have T1:True:=trivial;clear h CU CV hi hL;go_enter_defers Tryz.func114,Tryz.ntmps114;refine wp_mono ?_ bodyPostN_D
 go_wp2_with (first
  |(go_at_call 34;clear T1;refine(HCU.out).mono ?_;rintro e w1 ⟨rfl,rfl⟩)
  |(go_at_call 34;refine(HCV.out).mono ?_;rintro e w1 ⟨rfl,rfl⟩)
  |(refine wp_clear rfl (.tmp 38) _ rfl .u64 51 8 ty_big (some ⟨bz,oz,none⟩) bz oz lz cz rfl (fun _=>rfl) L HL.out hLl ?_;intro w2 row2 f2;have HR:=κ row2;have HF:=κ f2;clear row2 f2));show Leaves _ _ _ _ _ _ _;have hlr:(List.replicate lz (0:Int)).length=lz:=List.length_replicate;have hf:Fc 51 (In1 bz oz lz) w w2:=fc_row (L':=L) HL.out HR.out HF.out (by rw[hlr];exact hLl) (fun i h1 h2=>⟨rfl,h1,by rw[hlr]at h2;exact h2⟩)
 have hU0:val 18446744073709551616 U=0:=by
  have:=cut_drop HI.out;rwa[List.drop_zero]at this
 have HH:=H.out;refine⟨_,results_none rfl _ _ _,q,List.replicate lz 0,U,rfl,HH.st.fc hf (fun j hh=>HH.st.row_ne HL.out hh.1.symm) (fun p hp j hh=>by subst hp;exact HH.st.2.row_ne HL.out hh.1.symm),StkLe.refl _ _,rfl,Wr.of_spl HR.out (by rw[hlr];exact hLl),hlr,DG.rep (by omega) _,by rw[hU0,val_rep,Int.zero_ediv],HH.u.fc hf (fun j a1 a2 hh=> ?_),HH.ul,HH.ud,by rw[hU0,Int.zero_emod],hf.mono (fun b j hh _=> .inr (.inl hh))⟩;rw[HH.ul]at a2;exact HH.dzu.symm.off j a1 a2 hh
theorem dr_few(d:Int)(h:DrPre n lu lz s q bz oz cz bu ou cu bv ov cv U V w)(hi:CutAt U i)(hi0:0<i)(hin:i<n):
 Calls Tryz.prog 114 #[.slice (some ⟨bz,oz,none⟩) lz cz,.pointer (some ⟨s,0,none⟩),.slice (some ⟨bu,ou,none⟩) lu cu,.slice (some ⟨bv,ov,none⟩) n cv,.int .i64 d] w (DrPost s q bz oz lz bu ou lu (val 18446744073709551616 U) (val 18446744073709551616 V) w):=by
 have H:=κ h;have hvn:=h.vn;have cz1:=h.cz1;have cz9:=h.cz9;have cu1:=h.cu1;have cu9:=h.cu9;have cv9:=h.cv9;have few:=h.few;have hil:i<=lu:=by have:=hi.1;rwa[h.ul]at this
 have hsv:=h.v.2.2 (by rw[h.kv.len];have:=h.kv.two;omega);have CU:=normD_any bu ou cu i U w h.u.src (by rw[h.ul];exact cu1) (by unfold maxLen;omega) hi;have CV:=normD_any bv ov cv n V w hsv (by rw[h.kv.len];exact hvn) (by unfold maxLen;omega) (knv_cut h.kv);rw[h.ul]at CU;rw[h.kv.len]at CV;have HCU:=κ CU;have HCV:=κ CV;have CB:=κ (divBasic_few s q (some ⟨bz,oz,none⟩) lz cz (some ⟨bu,ou,none⟩) cu bv ov cv n i V w h.st (by have:=h.len;omega) hsv h.kv (by omega) hin (Off.take h.ov_ hvn) (by omega) (by unfold maxLen;omega) hvn (by unfold maxLen;omega))
 have hlt:val 18446744073709551616 U<val 18446744073709551616 V:=by
  obtain⟨h1,h2,h3,h4⟩:=cut_facts h.ud hi;have a1:=val_lt_of_len (B:=18446744073709551616) (by omega) h2 (k:=n-1) (by omega);have a2:=h.kv.lo;have a3:=pow_pos_ (B:=18446744073709551616) (by omega) (n-1);rw[h4]at a1;omega
 have hd:=div_few (val_nonneg (by omega) h.ud) hlt
 have FIN:=κ (fun(e:Ending) (w2:World) (hp:SamePost s q w e w2)=>show DrPost s q bz oz lz bu ou lu (val 18446744073709551616 U) (val 18446744073709551616 V) w e w2 from by
  obtain⟨q',rfl,g1,g2,g3,g4⟩:=hp;exact⟨q',List.replicate lz 0,U,rfl,g1,g2,g3,h.z.fc g4 (by rw[List.length_replicate];exact h.oz_),List.length_replicate,DG.rep (by omega) _,by rw[hd.1,val_rep],h.u.fc g4 (by rw[h.ul];exact h.ou_),h.ul,h.ud,hd.2.symm,g4.mono (fun b j hh _=> .inl hh)⟩);have td:w.cell? ⟨1,0,none⟩=some (.int .i64 40):=h.td;have hi0':((i:Int)==0)=false:=by rw[beq_eq_false_iff_ne];omega
 have hneg:(i:Int)-(n:Int)<0:=by omega
 have T1:True:=trivial;by_cases hn40:n<40
 ·have hnI:(n:Int)<40:=by omega
  clear h CU CV hi hsv hlt hd;go_enter_defers Tryz.func114,Tryz.ntmps114;refine wp_mono ?_ bodyPostN_D
  go_wp2_with (first
   |(go_at_call 34;clear T1;refine(HCU.out).mono ?_;rintro e w1 ⟨rfl,rfl⟩)
   |(go_at_call 34;refine(HCV.out).mono ?_;rintro e w1 ⟨rfl,rfl⟩)
   |(go_at_call 78;refine(CB.out).mono ?_;intro e w2 hp;have HP:=κ (FIN.out _ _ hp);obtain⟨_,rfl,_⟩:=hp));show Leaves _ _ _ _ _ _ _;exact⟨_,results_none rfl _ _ _,HP.out⟩
 ·have hnI: ¬(n:Int)<40:=by omega
  have HS:=κ (FIN.out (.returned (.tuple #[])) w ⟨q,rfl,h.st,StkLe.refl _ _,rfl,Fc.refl _ _ _⟩);clear h CU CV hi hsv hlt hd CB FIN;go_enter_defers Tryz.func114,Tryz.ntmps114;refine wp_mono ?_ bodyPostN_D
  go_wp2_with (first
   |(go_at_call 34;clear T1;refine(HCU.out).mono ?_;rintro e w1 ⟨rfl,rfl⟩)
   |(go_at_call 34;refine(HCV.out).mono ?_;rintro e w1 ⟨rfl,rfl⟩));show Leaves _ _ _ _ _ _ _;exact⟨_,results_none rfl _ _ _,HS.out⟩
theorem dr_basic(d:Int)(h:DrPre n lu lz s q bz oz cz bu ou cu bv ov cv U V w)(hi:CutAt U i)(hin:n<=i)(hn40:n<40):
 Calls Tryz.prog 114 #[.slice (some ⟨bz,oz,none⟩) lz cz,.pointer (some ⟨s,0,none⟩),.slice (some ⟨bu,ou,none⟩) lu cu,.slice (some ⟨bv,ov,none⟩) n cv,.int .i64 d] w (DrPost s q bz oz lz bu ou lu (val 18446744073709551616 U) (val 18446744073709551616 V) w):=by
 have H:=κ h;have hvn:=h.vn;have cz1:=h.cz1;have cz9:=h.cz9;have cu1:=h.cu1;have cu9:=h.cu9;have cv9:=h.cv9;have few:=h.few;have hn2:=h.kv.two;have hil:i<=lu:=by have:=hi.1;rwa[h.ul]at this
 have hsv:=h.v.2.2 (by rw[h.kv.len];omega);have CU:=normD_any bu ou cu i U w h.u.src (by rw[h.ul];exact cu1) (by unfold maxLen;omega) hi;have CV:=normD_any bv ov cv n V w hsv (by rw[h.kv.len];exact hvn) (by unfold maxLen;omega) (knv_cut h.kv);rw[h.ul]at CU;rw[h.kv.len]at CV;have HCU:=κ CU;have HCV:=κ CV;obtain⟨m,hm⟩: ∃m,i=m+n:=⟨i-n,by omega⟩;have hml:m<=lz:=by have:=h.ulen hi;omega
 obtain⟨c1,c2,c3,c4⟩:=cut_facts h.ud hi;have huq:=h.uq;have lu9:=h.lu9;have lz9:=h.lz9
 have CB:=divBasic_any s q bz oz cz bu ou cu bv ov cv n m i lz (List.replicate lz 0) (U.take i) V w h.st (by have:=h.len;omega) h.z List.length_replicate (h.u.take i (by rw[h.ul];exact hil)) hm (by rw[c1,hm]) c2 hsv (h.v.lt (by rw[h.kv.len];omega)) h.kv (by omega) (by omega) (by
  by_cases e:m=lz
  ·rw[c4,e];exact .inr ⟨rfl,huq⟩
  ·exact .inl (by omega)) (h.dvu.sub1 (Nat.le_refl _) hil) (h.dzu.sub1 (Nat.le_refl _) hil) h.dvz (Off.take h.ou_ hil) h.oz_ (Off.take h.ov_ hvn) (by omega) (by unfold maxLen;omega) hvn (by unfold maxLen;omega) cz1 (by unfold maxLen;omega);have CB:=κ CB
 have FIN:=κ (fun(e:Ending) (w2:World) (hp:DivPost s q bz oz lz bu ou i m (List.replicate lz 0) (U.take i) V w e w2)=>show DrPost s q bz oz lz bu ou lu (val 18446744073709551616 U) (val 18446744073709551616 V) w e w2 from by
  obtain⟨q',Q',U',rfl,g1,g2,g3,g4,g5,g6,g7,g8,g9,g10,g11,g12,g13⟩:=hp;rw[c4]at g9 g11
  have eD:Q'.drop (m+1)=List.replicate (lz-(m+1)) 0:=by
   apply List.ext_getElem (by rw[List.length_drop,List.length_replicate,g5]);intro j h1 h2;rw[List.length_drop,g5]at h1;have:=g12 (m+1+j) (by omega);rw[Go.Big.getD_in (show m+1+j<Q'.length by omega),Go.Big.getD_rep]at this;rw[List.getElem_drop,List.getElem_replicate,this]
  have hQd:DG 18446744073709551616 Q':=by
   have:=g10.append (eD▸DG.rep (by omega) _:DG 18446744073709551616 (Q'.drop (m+1)));rwa[List.take_append_drop]at this
  have hQv:val 18446744073709551616 Q'=val 18446744073709551616 U/val 18446744073709551616 V:=by
   rw[<-g11];conv=>lhs;rw[<-List.take_append_drop (m+1) Q']
   rw[val_append,eD,val_rep,Int.mul_zero,Int.add_zero]
  exact DrPost.full (i:=i) ⟨q',Q',U',rfl,g1,g2,g3,g4,g5,hQd,hQv,g6,g7,g8,g9,g13⟩ h.u h.ul h.ud hi h.dzu h.ou_);have td:w.cell? ⟨1,0,none⟩=some (.int .i64 40):=h.td;have hi0':((i:Int)==0)=false:=by rw[beq_eq_false_iff_ne];omega
 have hnI:(n:Int)<40:=by omega
 have T1:True:=trivial;clear h CU CV hi hsv c1 c2 c3 c4 huq hm;go_enter_defers Tryz.func114,Tryz.ntmps114;refine wp_mono ?_ bodyPostN_D
 go_wp2_with (first
  |(go_at_call 34;clear T1;refine(HCU.out).mono ?_;rintro e w1 ⟨rfl,rfl⟩)
  |(go_at_call 34;refine(HCV.out).mono ?_;rintro e w1 ⟨rfl,rfl⟩)
  |(go_at_call 78;refine(CB.out).mono ?_;intro e w2 hp;have HP:=κ (FIN.out _ _ hp);obtain⟨_,_,_,rfl,_⟩:=hp));show Leaves _ _ _ _ _ _ _;exact⟨_,results_none rfl _ _ _,HP.out⟩
end
end Go.Proofs.YthecibbmbnpegaaGreatDoor
end
section
namespace Go.Big
theorem spl_take_lo{L zs:List Int}{a o:Nat}(h:a<=o)(ho:o<=L.length):(spl L o zs).take a=L.take a:=by
 unfold spl;rw[List.take_append_of_le_length (by rw[List.length_take];omega),List.take_take,Nat.min_eq_left h]
theorem spl_drop_lo{L zs:List Int}{a o:Nat}(h:a<=o)(ho:o<=L.length):(spl L o zs).drop a=spl (L.drop a) (o-a) zs:=by
 unfold spl;rw[List.drop_append_of_le_length (by rw[List.length_take];omega),List.drop_take,List.drop_drop,show a+(o-a+zs.length)=o+zs.length by omega]
theorem spl_take_in{L zs:List Int}(h:zs.length<=L.length):(spl L 0 zs).take zs.length=zs:=by
 unfold spl;simp
theorem val_drop_split{xs:List Int}{a p:Nat}(h:a+p<=xs.length):val 18446744073709551616 (xs.drop a)=val 18446744073709551616 ((xs.drop a).take p)+18446744073709551616^p*val 18446744073709551616 (xs.drop (a+p)):=by
 rw[val_split 18446744073709551616 (xs.drop a) p (by rw[List.length_drop];omega),List.drop_drop]
theorem src_eq{k:IntKind}{w:World}{b o:Nat}{xs ys:List Int}(h:Src k w b o xs)(h':Src k w b o ys)(hl:xs.length=ys.length):xs=ys:=by
 apply List.ext_getElem hl;intro i h1 h2;have e1:=h i h1;have e2:=h' i h2;rw[e1]at e2;injection e2 with e2;injection e2 with e2 e3;rwa[getD_in h1,getD_in h2]at e3
end Go.Big
namespace Go.Proofs.YthecibbmbnpegaaGreatDoor
open Go.Big Go.RowKit
theorem st_in1{w w2:World}{s b o x k:Nat}{q:Option StkSt}{xs:List Int}(st:StkAt w s q)(h:Wr 51 w b o xs)(hf:Fc 51 (In1 b x k) w w2):StkAt w2 s q:=by
 obtain⟨_,L,hL,_⟩:=h;exact st.fc hf (fun i hh=>st.row_ne hL hh.1.symm) (fun p hp i hh=>by subst hp;exact st.2.row_ne hL hh.1.symm)
def DrS(s:Nat)(q:Option StkSt)(bz oz lz bu ou lu b0 o0 c0 b i:Nat):Prop:=StS s q b i\/In1 bz oz lz b i\/In1 bu ou lu b i\/In1 b0 o0 c0 b i
structure DrC(n B p lz lu s:Nat)(q1:Option StkSt)(bz oz cz bu ou cu bv ov cv b0 o0:Nat)(V:List Int)(w:World):Prop where
 n40:40<=n
 few:n<=900
 hB:B=n/2
 hp:p+1=B
 lz9:lz<=100000
 lu9:lu<=100000
 cz1:lz<=cz
 cz9:cz<=9223372036854775807
 cu1:lu<=cu
 cu9:cu<=9223372036854775807
 cv1:n<=cv
 cv9:cv<=9223372036854775807
 thr:Glo w 0 40
 td:Glo w 1 40
 st:StkAt w s q1
 len:lenS q1+9000*(n+1)<=100000000000
 v:Nm w (some ⟨bv,ov,none⟩) bv ov cv V
 kv:KnV n V
 r0:Rcv w (some ⟨b0,o0,none⟩) b0 o0 (B+1)
 zr: ∃Z,Wr 51 w bz oz Z/\Z.length=lz
 ur: ∃U,Wr 51 w bu ou U/\U.length=lu
 dvu:Dj bv ov n bu ou lu
 dzu:Dj bz oz lz bu ou lu
 dvz:Dj bv ov n bz oz lz
 d0u:Dj b0 o0 (B+1) bu ou lu
 d0z:Dj b0 o0 (B+1) bz oz lz
 d0v:Dj b0 o0 (B+1) bv ov n
 oz_:Off (StS s q1) bz oz lz
 ou_:Off (StS s q1) bu ou lu
 ov_:Off (StS s q1) bv ov cv
 o0_:Off (StS s q1) b0 o0 (B+1)
structure DrW(B lz lu s:Nat)(q1:Option StkSt)(bz oz bu ou b0 o0:Nat)(w:World)(q':Option StkSt)(Uc Zc Qc:List Int)(w':World):Prop where
 fc:Fc 51 (DrS s q1 bz oz lz bu ou lu b0 o0 (B+1)) w w'
 st:StkAt w' s q'
 le:StkLe w.heap.size q1 q'
 ll:lenS q'=lenS q1
 u:Wr 51 w' bu ou Uc
 ul:Uc.length=lu
 ud:DG 18446744073709551616 Uc
 z:Wr 51 w' bz oz Zc
 zl:Zc.length=lz
 zd:DG 18446744073709551616 Zc
 c:Wr 51 w' b0 o0 Qc
 cl:Qc.length=B+1
 cd:DG 18446744073709551616 Qc
section
variable {n B p lz lu s:Nat}{q1:Option StkSt}{bz oz cz bu ou cu bv ov cv b0 o0:Nat}{V:List Int}{w:World}
theorem DrC.gn(C:DrC n B p lz lu s q1 bz oz cz bu ou cu bv ov cv b0 o0 V w){g:Nat}{v:Int}(hg:Glo w g v): ¬DrS s q1 bz oz lz bu ou lu b0 o0 (B+1) g 0:=by
 obtain⟨Z,hZ,_⟩:=C.zr;obtain⟨U,hU,_⟩:=C.ur;obtain⟨_,LZ,hLZ,_⟩:=hZ;obtain⟨_,LU,hLU,_⟩:=hU;rintro(e|e|e|e)
 ·exact glo_stk hg C.st 0 e
 ·exact hg.row_ne hLZ e.1
 ·exact hg.row_ne hLU e.1
 ·exact glo_rcv hg C.r0 (by omega) e.1
theorem DrC.von(C:DrC n B p lz lu s q1 bz oz cz bu ou cu bv ov cv b0 o0 V w):Off (DrS s q1 bz oz lz bu ou lu b0 o0 (B+1)) bv ov V.length:=by
 have hl:=C.kv.len;have hc:=C.cv1;rintro i h1 h2 (e|e|e|e)
 ·exact C.ov_ i h1 (by omega) e
 ·exact C.dvz.off i h1 (by omega) e
 ·exact C.dvu.off i h1 (by omega) e
 ·exact C.d0v.symm.off i h1 (by omega) e
theorem DrC.offs(C:DrC n B p lz lu s q1 bz oz cz bu ou cu bv ov cv b0 o0 V w){q':Option StkSt}(le:StkLe w.heap.size q1 q')(ll:lenS q'=lenS q1):Off (StS s q') bz oz lz/\Off (StS s q') bu ou lu/\Off (StS s q') bv ov cv/\Off (StS s q') b0 o0 (B+1):=by
 obtain⟨Z,hZ,_⟩:=C.zr;obtain⟨U,hU,_⟩:=C.ur;exact⟨off_le le (Nat.le_of_eq ll.symm) C.oz_ hZ.lt,off_le le (Nat.le_of_eq ll.symm) C.ou_ hU.lt,off_le le (Nat.le_of_eq ll.symm) C.ov_ (C.v.lt (by rw[C.kv.len];have:=C.n40;omega)),off_le le (Nat.le_of_eq ll.symm) C.o0_ (C.r0.lt (by omega))⟩
theorem nm_drop{A:Option Addr}{b o c i:Nat}{xs:List Int}(h:Nm w A b o c xs)(hi:i<xs.length):Nm w (some ⟨b,o+i,none⟩) b (o+i) (c-i) (xs.drop i):=
 ⟨by rw[List.length_drop];have:=h.le;omega,h.rcv.drop (by have:=h.le;omega),fun _=>(h.2.2 (by omega)).drop i⟩
theorem dr_rec(D:DrOK (n-p))(C:DrC n B p lz lu s q1 bz oz cz bu ou cu bv ov cv b0 o0 V w){q':Option StkSt}{Uc Zc:List Int}{w':World}(K:DrW B lz lu s q1 bz oz bu ou b0 o0 w q' Uc Zc (List.replicate (B+1) 0) w'){a x ox lx cx:Nat}(d:Int)(hx:x=a+p)(hox:ox=ou+x)(hlx:x+lx<=lu)(hcx:lx<=cx)(hcx9:cx<=9223372036854775807)
 (hv:val 18446744073709551616 ((Uc.drop x).take lx)=val 18446744073709551616 (Uc.drop x))(hfit:val 18446744073709551616 (Uc.drop x)<9223372036854775808*18446744073709551616^(n-p+B))(W:World)(fW:Fr [] w' W):
 Calls Tryz.prog 114 #[.slice (some ⟨b0,o0,none⟩) (B+1:Nat) (B+1:Nat),.pointer (some ⟨s,0,none⟩),.slice (some ⟨bu,ox,none⟩) lx cx,.slice (some ⟨bv,ov+p,none⟩) (n-p:Nat) (cv-p:Nat),.int .i64 d] W fun e w2=>e= .returned (.tuple #[])/\
  ∃q2 Uc2 Qc,DrW B lz lu s q1 bz oz bu ou b0 o0 w q2 Uc2 Zc Qc w2/\val 18446744073709551616 Qc=val 18446744073709551616 (Uc.drop x)/val 18446744073709551616 (V.drop p)/\val 18446744073709551616 (Uc2.take a)=val 18446744073709551616 (Uc.take a)/\
   val 18446744073709551616 (Uc2.drop a)=val 18446744073709551616 ((Uc.drop a).take p)+18446744073709551616^p*(val 18446744073709551616 (Uc.drop x)%val 18446744073709551616 (V.drop p)):=by
 have n40:=C.n40;have few:=C.few;have hB:=C.hB;have hp:=C.hp;have cv1:=C.cv1;have cv9:=C.cv9;have hlen:=C.len;have hll:=K.ll;have hvl:=C.kv.len;have hul:=K.ul;have lu9:=C.lu9;have dvu:=C.dvu;have d0u:=C.d0u;have d0v:=C.d0v;obtain⟨oz',ou',ov',o0'⟩:=C.offs K.le K.ll;have hsz:=K.fc.size;have vW:=(C.v.fc K.fc C.von).fr0 fW;have hlt:((Uc.drop x).take lx).length=lx:=by rw[List.length_take,List.length_drop];omega
 refine(D lx (B+1) s q' b0 o0 (B+1) bu ox cx bv (ov+p) (cv-p) ((Uc.drop x).take lx) (V.drop p) d W ⟨K.st.fr0 fW,by omega,(C.thr.fc K.fc (C.gn C.thr)).fr0 fW,(C.td.fc K.fc (C.gn C.td)).fr0 fW,K.c.fr0 fW,by rw[hox];exact(K.u.sub x lx (by omega)).fr0 fW,hlt,(K.ud.drop x).take lx,nm_drop vW (by omega),C.kv.drop (by omega),by rw[hv,show n-p+(B+1)-1=n-p+B by omega];exact hfit,by omega,by omega,by omega,Nat.le_refl _,by omega,hcx,hcx9,by omega,by unfold Dj at *;omega,by unfold Dj at *;omega,by unfold Dj at *;omega,o0',fun j a1 a2 hh=>ou' j (by omega) (by omega) hh,fun j a1 a2 hh=>ov' j (by omega) (by omega) hh⟩).mono ?_;rintro e w2 ⟨q2,Qc,U',rfl,g1,g2,g3,g4,g5,g6,g7,g8,g9,g10,g11,g12⟩;rw[hv]at g7 g11;have hf:Fc 51 (fun b i=>StS s q' b i\/In1 b0 o0 (B+1) b i\/In1 bu ox lx b i) w' w2:=(Fc.fr0 fW _ _).t g12;have hlu:x+U'.length<=Uc.length:=by omega
 have hU:Wr 51 w2 bu ou (spl Uc x U'):=K.u.upd2 (by rw[<-hox];exact g8) hf (fun j a1 a2 a3 hh=>by
  rcases hh with hh|hh|hh
  ·exact ou' j a1 (by omega) hh
  ·exact d0u.symm.off j a1 (by omega) hh
  ·exact a3 ⟨by have:=hh.2.1;omega,by have:=hh.2.2;omega⟩) hlu
 have hZ:Wr 51 w2 bz oz Zc:=K.z.fc hf (fun j a1 a2 hh=>by
  rw[K.zl]at a2;rcases hh with hh|hh|hh
  ·exact oz' j a1 a2 hh
  ·exact C.d0z.symm.off j a1 a2 hh
  ·exact C.dzu.off j a1 a2 ⟨hh.1,by have:=hh.2.1;omega,by have:=hh.2.2;omega⟩);refine⟨rfl,q2,spl Uc x U',Qc,⟨K.fc.trans hf (fun b i hh hlt=> ?_),g1,K.le.trans (g2.le (Nat.le_trans hsz fW.size)) (Nat.le_refl _),g3.trans K.ll,hU,by rw[spl_len hlu,hul],spl_dg K.ud g10,hZ,K.zl,K.zd,g4,g5,g6⟩,g7,by rw[spl_take_lo (by omega) (by omega)],?_⟩
 ·rcases hh with hh|hh|hh
  ·exact .inl (K.le.sub (Nat.le_of_eq K.ll.symm) b i hh hlt)
  ·exact .inr (.inr (.inr hh))
  ·exact .inr (.inr (.inl ⟨hh.1,by have:=hh.2.1;omega,by have:=hh.2.2;omega⟩))
 ·rw[spl_drop_lo (by omega) (by omega),val_spl (by rw[List.length_drop];omega),List.drop_drop,show a+(x-a)=x by omega,g9,hv,g11,show x-a=p by omega,val_drop_split (a:=a) (p:=p) (by omega),<- hx]
  generalize val 18446744073709551616 ((Uc.drop a).take p)=X1;generalize val 18446744073709551616 (Uc.drop x)=X2;generalize(18446744073709551616:Int)^p=X3;generalize X2%val 18446744073709551616 (V.drop p)=X4;grind
structure DrT(n B p lz lu s:Nat)(q2:Option StkSt)(bz oz cz bu ou cu bv ov cv b0 o0 bt ot n3:Nat)(V:List Int)(w:World):Prop where
 c:DrC n B p lz lu s q2 bz oz cz bu ou cu bv ov cv b0 o0 V w
 h3:n3=3*n
 rt:Rcv w (some ⟨bt,ot,none⟩) bt ot n3
 dtu:Dj bt ot n3 bu ou lu
 dtz:Dj bt ot n3 bz oz lz
 dtv:Dj bt ot n3 bv ov n
 dt0:Dj bt ot n3 b0 o0 (B+1)
 e0:bt≠b0\/ot+n3≠o0+(B+1)
 ev:bt≠bv\/ot+n3≠ov+cv
 ot_:Off (StS s q2) bt ot n3
end
end Go.Proofs.YthecibbmbnpegaaGreatDoor
end
section
namespace Go.Proofs.YthecibbmbnpegaaGreatDoor
open Go.Big Go.RowKit
def DrTS(s:Nat)(q:Option StkSt)(bz oz lz bu ou lu b0 o0 c0 bt ot n3 b i:Nat):Prop:=DrS s q bz oz lz bu ou lu b0 o0 c0 b i\/In1 bt ot n3 b i
structure DrM(B lz lu s:Nat)(q2:Option StkSt)(bz oz bu ou b0 o0 bt ot n3:Nat)(w:World)(q':Option StkSt)(Uc Zc Qc T:List Int)(w':World):Prop where
 fc:Fc 51 (DrTS s q2 bz oz lz bu ou lu b0 o0 (B+1) bt ot n3) w w'
 st:StkAt w' s q'
 le:StkLe w.heap.size q2 q'
 ll:lenS q'=lenS q2
 u:Wr 51 w' bu ou Uc
 ul:Uc.length=lu
 ud:DG 18446744073709551616 Uc
 z:Wr 51 w' bz oz Zc
 zl:Zc.length=lz
 zd:DG 18446744073709551616 Zc
 c:Wr 51 w' b0 o0 Qc
 cl:Qc.length=B+1
 cd:DG 18446744073709551616 Qc
 t:Wr 51 w' bt ot T
 tl:T.length=n3
 td:DG 18446744073709551616 T
structure DrN(n a l lq:Nat)(lo R zv tq qq:Int)(f:Bool)(Uc Zc Qc T:List Int):Prop where
 hlo:val 18446744073709551616 (Uc.take a)=lo
 hR:val 18446744073709551616 (Uc.drop a)=R
 hz:val 18446744073709551616 Zc=zv
 ht:val 18446744073709551616 T=tq
 htt:val 18446744073709551616 (T.take l)=tq
 hq:val 18446744073709551616 (Qc.take lq)=qq
 hnz:f=true->NZ (T.take l)\/(l<=n/\18446744073709551616^(n-1)<=R)
def DrV(n B lz lu s:Nat)(q2:Option StkSt)(bz oz bu ou b0 o0 bt ot n3:Nat)(w:World)(a l lq:Nat)(lo R zv tq qq:Int)(f:Bool)(w':World):Prop:=
 ∃q' Uc Zc Qc T,DrM B lz lu s q2 bz oz bu ou b0 o0 bt ot n3 w q' Uc Zc Qc T w'/\DrN n a l lq lo R zv tq qq f Uc Zc Qc T
section
variable {n B p lz lu s:Nat}{q2 q':Option StkSt}{bz oz cz bu ou cu bv ov cv b0 o0 bt ot n3:Nat}{V Uc Zc Qc T:List Int}{w w' w2:World}
theorem DrM.fr0(K:DrM B lz lu s q2 bz oz bu ou b0 o0 bt ot n3 w q' Uc Zc Qc T w')(f:Fr [] w' w2):DrM B lz lu s q2 bz oz bu ou b0 o0 bt ot n3 w q' Uc Zc Qc T w2:=
 ⟨K.fc.t (Fc.fr0 f _ _),K.st.fr0 f,K.le,K.ll,K.u.fr0 f,K.ul,K.ud,K.z.fr0 f,K.zl,K.zd,K.c.fr0 f,K.cl,K.cd,K.t.fr0 f,K.tl,K.td⟩
theorem DrT.gn(C:DrT n B p lz lu s q2 bz oz cz bu ou cu bv ov cv b0 o0 bt ot n3 V w){g:Nat}{v:Int}(hg:Glo w g v): ¬DrTS s q2 bz oz lz bu ou lu b0 o0 (B+1) bt ot n3 g 0:=by
 rintro(e|e)
 ·exact C.c.gn hg e
 ·exact glo_rcv hg C.rt (by have:=C.h3;have:=C.c.n40;omega) e.1
theorem DrT.von(C:DrT n B p lz lu s q2 bz oz cz bu ou cu bv ov cv b0 o0 bt ot n3 V w):Off (DrTS s q2 bz oz lz bu ou lu b0 o0 (B+1) bt ot n3) bv ov V.length:=by
 have hl:=C.c.kv.len;rintro i h1 h2 (e|e)
 ·exact C.c.von i h1 h2 e
 ·exact C.dtv.symm.off i h1 (by omega) e
theorem DrT.v'(C:DrT n B p lz lu s q2 bz oz cz bu ou cu bv ov cv b0 o0 bt ot n3 V w)(K:DrM B lz lu s q2 bz oz bu ou b0 o0 bt ot n3 w q' Uc Zc Qc T w'):Nm w' (some ⟨bv,ov,none⟩) bv ov cv V:=C.c.v.fc K.fc C.von
theorem DrT.offt(C:DrT n B p lz lu s q2 bz oz cz bu ou cu bv ov cv b0 o0 bt ot n3 V w)(K:DrM B lz lu s q2 bz oz bu ou b0 o0 bt ot n3 w q' Uc Zc Qc T w'):Off (StS s q') bt ot n3:=
 off_le K.le (Nat.le_of_eq K.ll.symm) C.ot_ (C.rt.lt (by have:=C.h3;have:=C.c.n40;omega))
theorem DrM.wu(C:DrT n B p lz lu s q2 bz oz cz bu ou cu bv ov cv b0 o0 bt ot n3 V w)(K:DrM B lz lu s q2 bz oz bu ou b0 o0 bt ot n3 w q' Uc Zc Qc T w'){x:Nat}{zs:List Int}(h:Wr 51 w2 bu (ou+x) zs)(hf:Fc 51 (In1 bu (ou+x) zs.length) w' w2)(hx:x+zs.length<=lu)(hd:DG 18446744073709551616 zs):
 DrM B lz lu s q2 bz oz bu ou b0 o0 bt ot n3 w q' (spl Uc x zs) Zc Qc T w2:=by
 have hul:=K.ul;have dzu:=C.c.dzu;have d0u:=C.c.d0u;have dtu:=C.dtu;refine⟨K.fc.t (hf.mono (fun b i hh _=> .inl (.inr (.inr (.inl ⟨hh.1,by have:=hh.2.1;omega,by have:=hh.2.2;omega⟩))))),st_in1 K.st K.u hf,K.le,K.ll,K.u.upd h hf (by omega),by rw[spl_len (by omega),hul],spl_dg K.ud hd,K.z.fc hf (fun j a1 a2 hh=> ?_),K.zl,K.zd,K.c.fc hf (fun j a1 a2 hh=> ?_),K.cl,K.cd,K.t.fc hf (fun j a1 a2 hh=> ?_),K.tl,K.td⟩
 ·rw[K.zl]at a2
  exact dzu.off j a1 a2 ⟨hh.1,by have:=hh.2.1;omega,by have:=hh.2.2;omega⟩
 ·rw[K.cl]at a2
  exact d0u.off j a1 a2 ⟨hh.1,by have:=hh.2.1;omega,by have:=hh.2.2;omega⟩
 ·rw[K.tl]at a2
  exact dtu.off j a1 a2 ⟨hh.1,by have:=hh.2.1;omega,by have:=hh.2.2;omega⟩
theorem DrM.wz(C:DrT n B p lz lu s q2 bz oz cz bu ou cu bv ov cv b0 o0 bt ot n3 V w)(K:DrM B lz lu s q2 bz oz bu ou b0 o0 bt ot n3 w q' Uc Zc Qc T w'){x:Nat}{zs:List Int}(h:Wr 51 w2 bz (oz+x) zs)(hf:Fc 51 (In1 bz (oz+x) zs.length) w' w2)(hx:x+zs.length<=lz)(hd:DG 18446744073709551616 zs):
 DrM B lz lu s q2 bz oz bu ou b0 o0 bt ot n3 w q' Uc (spl Zc x zs) Qc T w2:=by
 have hzl:=K.zl;have dzu:=C.c.dzu;have d0z:=C.c.d0z;have dtz:=C.dtz;refine⟨K.fc.t (hf.mono (fun b i hh _=> .inl (.inr (.inl ⟨hh.1,by have:=hh.2.1;omega,by have:=hh.2.2;omega⟩)))),st_in1 K.st K.z hf,K.le,K.ll,K.u.fc hf (fun j a1 a2 hh=> ?_),K.ul,K.ud,K.z.upd h hf (by omega),by rw[spl_len (by omega),hzl],spl_dg K.zd hd,K.c.fc hf (fun j a1 a2 hh=> ?_),K.cl,K.cd,K.t.fc hf (fun j a1 a2 hh=> ?_),K.tl,K.td⟩
 ·rw[K.ul]at a2
  exact dzu.symm.off j a1 a2 ⟨hh.1,by have:=hh.2.1;omega,by have:=hh.2.2;omega⟩
 ·rw[K.cl]at a2
  exact d0z.off j a1 a2 ⟨hh.1,by have:=hh.2.1;omega,by have:=hh.2.2;omega⟩
 ·rw[K.tl]at a2
  exact dtz.off j a1 a2 ⟨hh.1,by have:=hh.2.1;omega,by have:=hh.2.2;omega⟩
theorem DrM.wc(C:DrT n B p lz lu s q2 bz oz cz bu ou cu bv ov cv b0 o0 bt ot n3 V w)(K:DrM B lz lu s q2 bz oz bu ou b0 o0 bt ot n3 w q' Uc Zc Qc T w'){x:Nat}{zs:List Int}(h:Wr 51 w2 b0 (o0+x) zs)(hf:Fc 51 (In1 b0 (o0+x) zs.length) w' w2)(hx:x+zs.length<=B+1)(hd:DG 18446744073709551616 zs):
 DrM B lz lu s q2 bz oz bu ou b0 o0 bt ot n3 w q' Uc Zc (spl Qc x zs) T w2:=by
 have hcl:=K.cl;have d0u:=C.c.d0u;have d0z:=C.c.d0z;have dt0:=C.dt0;refine⟨K.fc.t (hf.mono (fun b i hh _=> .inl (.inr (.inr (.inr ⟨hh.1,by have:=hh.2.1;omega,by have:=hh.2.2;omega⟩))))),st_in1 K.st K.c hf,K.le,K.ll,K.u.fc hf (fun j a1 a2 hh=> ?_),K.ul,K.ud,K.z.fc hf (fun j a1 a2 hh=> ?_),K.zl,K.zd,K.c.upd h hf (by omega),by rw[spl_len (by omega),hcl],spl_dg K.cd hd,K.t.fc hf (fun j a1 a2 hh=> ?_),K.tl,K.td⟩
 ·rw[K.ul]at a2
  exact d0u.symm.off j a1 a2 ⟨hh.1,by have:=hh.2.1;omega,by have:=hh.2.2;omega⟩
 ·rw[K.zl]at a2
  exact d0z.symm.off j a1 a2 ⟨hh.1,by have:=hh.2.1;omega,by have:=hh.2.2;omega⟩
 ·rw[K.tl]at a2
  exact dt0.off j a1 a2 ⟨hh.1,by have:=hh.2.1;omega,by have:=hh.2.2;omega⟩
theorem DrM.wt(C:DrT n B p lz lu s q2 bz oz cz bu ou cu bv ov cv b0 o0 bt ot n3 V w)(K:DrM B lz lu s q2 bz oz bu ou b0 o0 bt ot n3 w q' Uc Zc Qc T w'){x:Nat}{zs:List Int}(h:Wr 51 w2 bt (ot+x) zs)(hf:Fc 51 (In1 bt (ot+x) zs.length) w' w2)(hx:x+zs.length<=n3)(hd:DG 18446744073709551616 zs):
 DrM B lz lu s q2 bz oz bu ou b0 o0 bt ot n3 w q' Uc Zc Qc (spl T x zs) w2:=by
 have htl:=K.tl;have dtu:=C.dtu;have dtz:=C.dtz;have dt0:=C.dt0;refine⟨K.fc.t (hf.mono (fun b i hh _=> .inr ⟨hh.1,by have:=hh.2.1;omega,by have:=hh.2.2;omega⟩)),st_in1 K.st K.t hf,K.le,K.ll,K.u.fc hf (fun j a1 a2 hh=> ?_),K.ul,K.ud,K.z.fc hf (fun j a1 a2 hh=> ?_),K.zl,K.zd,K.c.fc hf (fun j a1 a2 hh=> ?_),K.cl,K.cd,K.t.upd h hf (by omega),by rw[spl_len (by omega),htl],spl_dg K.td hd⟩
 ·rw[K.ul]at a2
  exact dtu.symm.off j a1 a2 ⟨hh.1,by have:=hh.2.1;omega,by have:=hh.2.2;omega⟩
 ·rw[K.zl]at a2
  exact dtz.symm.off j a1 a2 ⟨hh.1,by have:=hh.2.1;omega,by have:=hh.2.2;omega⟩
 ·rw[K.cl]at a2
  exact dt0.symm.off j a1 a2 ⟨hh.1,by have:=hh.2.1;omega,by have:=hh.2.2;omega⟩
theorem dr_mul(C:DrT n B p lz lu s q2 bz oz cz bu ou cu bv ov cv b0 o0 bt ot n3 V w){a lq:Nat}{lo R zv qq:Int}{f:Bool}(K:DrV n B lz lu s q2 bz oz bu ou b0 o0 bt ot n3 w a n3 lq lo R zv 0 qq f w')(hlq:lq<=B+1)(hb:qq*val 18446744073709551616 (V.take p)<18446744073709551616^(2*B))(W:World)(fW:Fr [] w' W):
 Calls Tryz.prog 33 #[.slice (some ⟨bt,ot,none⟩) n3 n3,.pointer (some ⟨s,0,none⟩),.slice (some ⟨b0,o0,none⟩) lq (B+1:Nat),.slice (some ⟨bv,ov,none⟩) p cv] W fun e w2=> ∃l,e= .returned (.slice (some ⟨bt,ot,none⟩) l n3)/\l<=2*B/\DrV n B lz lu s q2 bz oz bu ou b0 o0 bt ot n3 w a l lq lo R zv (qq*val 18446744073709551616 (V.take p)) qq true w2:=by
 obtain⟨q',Uc,Zc,Qc,T,K,N⟩:=K;have n40:=C.c.n40;have few:=C.c.few;have hB:=C.c.hB;have hp:=C.c.hp;have h3:=C.h3;have hlen:=C.c.len;have hll:=K.ll;have hvl:=C.c.kv.len;have cv1:=C.c.cv1;have hcl:=K.cl;have htl:=K.tl;have dtv:=C.dtv;have dt0:=C.dt0;have KW:=K.fr0 fW;have vW:=C.v' KW;obtain⟨oz',ou',ov',o0'⟩:=C.c.offs KW.le KW.ll;have ot':=C.offt KW;have rtW:=C.rt.fc KW.fc;have r0W:=C.c.r0.fc KW.fc;have hql:(Qc.take lq).length=lq:=by rw[List.length_take];omega
 have hvp:(V.take p).length=p:=by rw[List.length_take];omega
 have x0:Nm W (some ⟨b0,o0,none⟩) b0 o0 (B+1) (Qc.take lq):=Nm.of_wr (KW.c.take lq (by omega)) r0W (by omega);have y0:Nm W (some ⟨bv,ov,none⟩) bv ov cv (V.take p):=vW.cut (by omega)
 have hT0:T=List.replicate n3 0:=by
  refine eq_of_val_len KW.td (DG.rep (by omega) _) (by rw[List.length_replicate,htl]) ?_;rw[N.ht,val_rep]
 refine(mul_ok lq p s q' (some ⟨bt,ot,none⟩) n3 bt ot n3 _ b0 o0 (B+1) (Qc.take lq) _ bv ov cv (V.take p) W ⟨KW.st,fun _=>by omega,fun _=>by omega,C.c.thr.fc KW.fc (C.gn C.c.thr),rtW,Nat.le_refl _,by omega,x0,hql,KW.cd.take lq,by omega,y0,hvp,C.c.kv.dg.take p,C.c.cv9,by omega,by omega,by omega,dj_rm _ (by unfold Dj at *;omega),dj_rm _ (by unfold Dj at *;omega),fun _ _=>C.e0,fun _ _=>C.ev,ot',o0',ov',rcv_stk KW.st rtW (.inl (by omega))⟩).mono ?_;rintro e w2 ⟨A',b',o',c',zs,q3,rfl,hn,hd,hz,hv,hpl,st2,le2,l2,hf0,hfull⟩;have hf:=hf0.mono (S':=fun b i=>StS s q' b i\/In1 bt ot (lq+p) b i) (fun _ _ h _=>h.imp id in_rm);clear hf0
 obtain⟨rfl,rfl,rfl,rfl⟩:A'=some ⟨bt,ot,none⟩/\b'=bt/\o'=ot/\c'=n3:=by
  rcases hpl with h|h
  ·exact h
  ·omega
 rw[N.hq]at hv hfull;have hzl:zs.length<=2*B:=len_le (by omega) hd hz (by rw[hv];exact hb)
 have hfm:Fc 51 (DrTS s q2 bz oz lz bu ou lu b0 o0 (B+1) b' o' c') w w2:=KW.fc.trans hf (fun b i hh hlt=>by
  rcases hh with hh|hh
  ·exact .inl (.inl (KW.le.sub (Nat.le_of_eq KW.ll.symm) b i hh hlt))
  ·exact .inr ⟨hh.1,hh.2.1,by have:=hh.2.2;omega⟩)
 have hu2:Wr 51 w2 bu ou Uc:=KW.u.fc hf (fun j a1 a2 hh=>by
  rw[KW.ul]at a2;rcases hh with hh|hh
  ·exact ou' j a1 a2 hh
  ·exact C.dtu.symm.off j a1 a2 ⟨hh.1,hh.2.1,by have:=hh.2.2;omega⟩)
 have hz2:Wr 51 w2 bz oz Zc:=KW.z.fc hf (fun j a1 a2 hh=>by
  rw[KW.zl]at a2;rcases hh with hh|hh
  ·exact oz' j a1 a2 hh
  ·exact C.dtz.symm.off j a1 a2 ⟨hh.1,hh.2.1,by have:=hh.2.2;omega⟩)
 have hc2:Wr 51 w2 b0 o0 Qc:=KW.c.fc hf (fun j a1 a2 hh=>by
  rw[KW.cl]at a2;rcases hh with hh|hh
  ·exact o0' j a1 a2 hh
  ·exact dt0.symm.off j a1 a2 ⟨hh.1,hh.2.1,by have:=hh.2.2;omega⟩)
 have mk: ∀T2,Wr 51 w2 b' o' T2->T2.length=c'->DG 18446744073709551616 T2->DrM B lz lu s q2 bz oz bu ou b0 o0 b' o' c' w q3 Uc Zc Qc T2 w2:=fun T2 ht hl hd2=>
  ⟨hfm,st2,KW.le.trans le2 KW.fc.size,l2.trans KW.ll,hu2,KW.ul,KW.ud,hz2,KW.zl,KW.zd,hc2,KW.cl,KW.cd,ht,hl,hd2⟩
 refine⟨zs.length,rfl,hzl,q3,Uc,Zc,Qc,?_⟩;rcases hfull with⟨hv0,hf0⟩|⟨Z,hZ,hZl,hZd,hZv⟩
 ·have hzs:zs=[]:=by
   rcases hz with h|h
   ·exact h
   ·by_cases e:zs=[]
    ·exact e
    ·exfalso
     have:=val_pos (by omega) hd (.inr h) e;have:=pow_pos_ (B:=18446744073709551616) (by omega) (zs.length-1);omega
  have hT2:Wr 51 w2 b' o' T:=KW.t.fc hf0 (fun j a1 a2=>ot' j a1 (by omega));refine⟨T,mk T hT2 htl KW.td,N.hlo,N.hR,N.hz,N.ht.trans hv0.symm,?_,N.hq,fun _=> .inl ?_⟩
  ·rw[hzs,List.length_nil,List.take_zero,val_nil,hv0]
  ·rw[hzs,List.length_nil,List.take_zero];exact NZ.nil
 ·have hsp:Wr 51 w2 b' o' (spl T 0 Z):=KW.t.upd2 (i:=0) hZ hf (fun j a1 a2 a3 hh=>by
   rw[htl]at a2;rcases hh with hh|hh
   ·exact ot' j a1 a2 hh
   ·exact a3 ⟨by omega,by have:=hh.2.2;omega⟩) (by omega)
  have hval:val 18446744073709551616 (spl T 0 Z)=qq*val 18446744073709551616 (V.take p):=by
   rw[val_spl (by omega),hZv,N.ht,List.drop_zero,hT0,List.take_replicate,val_rep];omega
  have hle:=hn.le
  have htk:(spl T 0 Z).take zs.length=zs:=by
   by_cases h0:zs.length=0
   ·rw[h0,List.take_zero];exact(List.eq_nil_of_length_eq_zero h0).symm
   ·refine src_eq ((hsp.take zs.length (by rw[spl_len (by omega)];omega)).src) (hn.2.2 (by omega)) (by rw[List.length_take,spl_len (by omega)];omega)
  exact⟨spl T 0 Z,mk _ hsp (by rw[spl_len (by omega),htl]) (spl_dg KW.td hZd),N.hlo,N.hR,N.hz,hval,by rw[htk,hv],N.hq,fun _=> .inl (by rw[htk];exact hz)⟩
theorem dr_cmp(C:DrT n B p lz lu s q2 bz oz cz bu ou cu bv ov cv b0 o0 bt ot n3 V w){a l lq:Nat}{lo R zv tq qq:Int}(K:DrV n B lz lu s q2 bz oz bu ou b0 o0 bt ot n3 w a l lq lo R zv tq qq true w')(hl:l<=n3){oa la ca:Nat}(e1:oa=ou+a)(e2:la=lu-a)(ha:a<=lu)(hla:la<=ca)(hca:ca<=9223372036854775807):
 ∃i,(∀W,Fr [] w' W->Calls Tryz.prog 34 #[.slice (some ⟨bu,oa,none⟩) la ca] W fun e w2=>e= .returned (.slice (some ⟨bu,oa,none⟩) i ca)/\W=w2)/\ ∀W,Fr [] w' W->Calls Tryz.prog 47 #[.slice (some ⟨bt,ot,none⟩) l n3,.slice (some ⟨bu,oa,none⟩) i ca] W fun e w2=>e= .returned (.int .i64 (cmpI tq R))/\Fr [] W w2:=by
 obtain⟨q',Uc,Zc,Qc,T,K,N⟩:=K;obtain⟨i,hi⟩:=cut_at (Uc.drop a);have hul:=K.ul;have htl:=K.tl;have n40:=C.c.n40;have few:=C.c.few;have h3:=C.h3;have hdl:(Uc.drop a).length=la:=by rw[List.length_drop];omega
 obtain⟨c1,c2,c3,c4⟩:=cut_facts (K.ud.drop a) hi;have hil:i<=la:=by have:=hi.1;omega
 refine⟨i,fun W fW=> ?_,fun W fW=> ?_⟩
 ·have:=normD_any bu oa ca i (Uc.drop a) W (by rw[e1];exact((K.u.fr0 fW).drop a (by omega)).src) (by omega) (by unfold maxLen;omega) hi
  rwa[hdl]at this
 ·have hT:Sl .u64 W (.slice (some ⟨bt,ot,none⟩) l n3) (T.take l):=by
   have e:(T.take l).length=l:=by rw[List.length_take];omega
   exact⟨_,n3,by rw[e],by omega,by unfold maxLen;omega,fun _=>⟨bt,ot,rfl,(K.t.fr0 fW).lt,((K.t.fr0 fW).take l (by omega)).src⟩⟩
  have hU:Sl .u64 W (.slice (some ⟨bu,oa,none⟩) i ca) ((Uc.drop a).take i):=by
   refine⟨_,ca,by rw[c1],by omega,by unfold maxLen;omega,fun _=>⟨bu,oa,rfl,(K.u.fr0 fW).lt,?_⟩⟩;rw[e1];exact((K.u.fr0 fW).sub a i (by omega)).src
  have:=bcmp_gen _ _ (T.take l) ((Uc.drop a).take i) W hT hU (K.td.take l) c2 (lt_of_shorter (by omega) (K.td.take l) c2 c3) (fun hlt=>by
   rcases N.hnz rfl with hz|⟨hz1,hz2⟩
   ·exact lt_of_shorter (by omega) c2 (K.td.take l) hz hlt
   ·exfalso
    rw[c1,List.length_take,htl]at hlt;have b1:=val_lt_of_len (B:=18446744073709551616) (by omega) c2 (k:=n-1) (by omega);rw[c4,N.hR]at b1;omega);rw[c4,N.hR,N.htt]at this;exact this
theorem dr_dec(C:DrT n B p lz lu s q2 bz oz cz bu ou cu bv ov cv b0 o0 bt ot n3 V w){a l lq:Nat}{lo R zv tq qq:Int}{f:Bool}(K:DrV n B lz lu s q2 bz oz bu ou b0 o0 bt ot n3 w a l lq lo R zv tq qq f w')(hlq:lq<=B+1)(hq:1<=qq)(W:World)(fW:Fr [] w' W):
 Calls Tryz.prog 72 #[.slice (some ⟨b0,o0,none⟩) lq (B+1:Nat),.slice (some ⟨b0,o0,none⟩) lq (B+1:Nat),.int .u64 1] W fun e w2=>(∃c,e= .returned (.int .u64 c))/\DrV n B lz lu s q2 bz oz bu ou b0 o0 bt ot n3 w a l lq lo R zv tq (qq-1) f w2:=by
 obtain⟨q',Uc,Zc,Qc,T,K,N⟩:=K;have KW:=K.fr0 fW;have hcl:=K.cl;have few:=C.c.few;have hB:=C.c.hB;have hql:(Qc.take lq).length=lq:=by rw[List.length_take];omega
 have hq0:0<lq:=by
  rcases Nat.eq_zero_or_pos lq with h|h
  ·subst h
   have:=N.hq;rw[List.take_zero,val_nil]at this;omega
  ·exact h
 refine(subVWw_any b0 o0 (B+1) b0 o0 (B+1) lq (Qc.take lq) (Qc.take lq) 1 W (KW.c.take lq (by omega)) hql hql (KW.c.take lq (by omega)) (K.cd.take lq) (.inr ⟨rfl,rfl⟩) hq0 (by omega) hlq hlq (by unfold maxLen;omega) (by unfold maxLen;omega) (by omega) (by omega)).mono ?_;rintro e w2 ⟨zs,c,rfl,h1,h2,h3,h4,h5,h6,h7⟩;rw[N.hq]at h7
 have hc:c=0:=by
  rcases(by omega:c=0\/c=1)with h|h
  ·exact h
  ·exfalso
   subst h;have:=val_lt_of_len (B:=18446744073709551616) (by omega) h4 (k:=lq) (by omega);omega
 subst hc;rw[Int.mul_zero,Int.add_zero]at h7;have M:=DrM.wc C KW (x:=0) h1 (by rw[h3];exact h2) (by omega) h4;refine⟨⟨_,rfl⟩,q',Uc,Zc,_,T,M,N.hlo,N.hR,N.hz,N.ht,N.htt,?_,N.hnz⟩;rw[show lq=zs.length from h3.symm,spl_take_in (by omega)];omega
end
end Go.Proofs.YthecibbmbnpegaaGreatDoor
end
section
namespace Go.Big
theorem spl_drop_hi{L zs:List Int}{o l:Nat}(h:o+zs.length<=l)(ho:o<=L.length):(spl L o zs).drop l=L.drop l:=by
 unfold spl;have e:(L.take o).length=o:=by rw[List.length_take];omega
 rw[List.drop_append,List.drop_eq_nil_of_le (by rw[e];omega),List.nil_append,e,List.drop_append,List.drop_eq_nil_of_le (by omega),List.nil_append,List.drop_drop];congr 1;omega
theorem take_full{xs:List Int}{l:Nat}{v:Int}(hl:l<=xs.length)(h:val 18446744073709551616 (xs.drop l)=0)(hv:val 18446744073709551616 xs=v):val 18446744073709551616 (xs.take l)=v:=by
 have:=val_split 18446744073709551616 xs l hl;rw[h,Int.mul_zero]at this;omega
theorem drop_zero_of{xs:List Int}{l:Nat}(hl:l<=xs.length)(h:val 18446744073709551616 (xs.take l)=val 18446744073709551616 xs):val 18446744073709551616 (xs.drop l)=0:=by
 have:=val_split 18446744073709551616 xs l hl;have hp:=pow_pos_ (B:=18446744073709551616) (by omega) l;have h0:(18446744073709551616:Int)^l*val 18446744073709551616 (xs.drop l)=0:=by omega
 rcases Int.mul_eq_zero.1 h0 with h1|h1
 ·omega
 ·exact h1
end Go.Big
namespace Go.Proofs.YthecibbmbnpegaaGreatDoor
open Go.Big Go.RowKit
section
variable {n B p lz lu s:Nat}{q2 q':Option StkSt}{bz oz cz bu ou cu bv ov cv b0 o0 bt ot n3:Nat}{V Uc Zc Qc T:List Int}{w w' w2:World}
theorem dr_sub1(C:DrT n B p lz lu s q2 bz oz cz bu ou cu bv ov cv b0 o0 bt ot n3 V w){a l lq:Nat}{lo R zv tq qq:Int}{f:Bool}(K:DrV n B lz lu s q2 bz oz bu ou b0 o0 bt ot n3 w a l lq lo R zv tq qq f w')(hl:l<=2*B)(ht:val 18446744073709551616 (V.take p)<=tq)(W:World)(fW:Fr [] w' W):
 Calls Tryz.prog 71 #[.slice (some ⟨bt,ot,none⟩) p n3,.slice (some ⟨bt,ot,none⟩) p n3,.slice (some ⟨bv,ov,none⟩) p cv] W fun e w2=> ∃c,e= .returned (.int .u64 c)/\0<=c/\c<=1/\(l<=p->c=0)/\DrV n B lz lu s q2 bz oz bu ou b0 o0 bt ot n3 w a l lq lo R zv (tq-val 18446744073709551616 (V.take p)+18446744073709551616^p*c) qq false w2:=by
 obtain⟨q',Uc,Zc,Qc,T,K,N⟩:=K;have KW:=K.fr0 fW;have htl:=K.tl;have few:=C.c.few;have n40:=C.c.n40;have hB:=C.c.hB;have hp:=C.c.hp;have h3:=C.h3;have hvl:=C.c.kv.len;have dtv:=C.dtv;have vW:=C.v' KW;have htp:(T.take p).length=p:=by rw[List.length_take];omega
 have hvp:(V.take p).length=p:=by rw[List.length_take];omega
 refine(subVVw_any bt ot n3 bt ot n3 bv ov cv p (T.take p) (T.take p) (V.take p) W (KW.t.take p (by omega)) htp htp (KW.t.take p (by omega)).src (K.td.take p) (.inr ⟨rfl,Nat.le_refl _⟩) hvp ((vW.2.2 (by omega)).take p) (C.c.kv.dg.take p) (.inl (by unfold Dj at *;omega)) (by omega)).mono ?_;rintro e w2 ⟨us,c,rfl,h1,h2,h3',h4,h5,h6,h7⟩;have M:=DrM.wt C KW (x:=0) h1 (by rw[h3'];exact h2) (by omega) h4
 have hval:val 18446744073709551616 (spl T 0 us)=tq-val 18446744073709551616 (V.take p)+18446744073709551616^p*c:=by
  rw[val_spl (by omega),h3',List.drop_zero,Int.pow_zero,Int.one_mul,N.ht];omega
 have hTd:=drop_zero_of (xs:=T) (l:=l) (by omega) (N.htt.trans N.ht.symm)
 have hc0:l<=p->c=0:=fun hlp=>by
  have hp0:=drop_zero_of (xs:=T) (l:=p) (by omega) (by
   refine take_full (by omega) ?_ rfl;have:T.drop p=(T.drop l).drop (p-l):=by rw[List.drop_drop];congr 1;omega
   rw[this];have hs:=val_split 18446744073709551616 (T.drop l) (p-l) (by rw[List.length_drop];omega);rw[hTd]at hs;have b1:=val_nonneg (B:=18446744073709551616) (by omega) ((K.td.drop l).take (p-l));have b2:=val_nonneg (B:=18446744073709551616) (by omega) ((K.td.drop l).drop (p-l));have hpp:=pow_pos_ (B:=18446744073709551616) (by omega) (p-l);have b3:=Int.mul_nonneg (Int.le_of_lt hpp) b2;have b4:(18446744073709551616:Int)^(p-l)*val 18446744073709551616 ((T.drop l).drop (p-l))=0:=by omega
   rcases Int.mul_eq_zero.1 b4 with h|h
   ·omega
   ·exact h);have hpv:=take_full (xs:=T) (l:=p) (by omega) hp0 N.ht;rw[hpv]at h7;rcases(by omega:c=0\/c=1)with h|h
  ·exact h
  ·exfalso
   subst h;have:=val_lt_of_len (B:=18446744073709551616) (by omega) h4 (k:=p) (by omega);omega
 refine⟨c,rfl,h5,h6,hc0,q',Uc,Zc,Qc,_,M,N.hlo,N.hR,N.hz,hval,?_,N.hq,fun hh=>by cases hh⟩;by_cases hlp:l<=p
 ·have e:=hc0 hlp
  rw[<-hval];have v0:=val_nonneg (B:=18446744073709551616) (by omega) (C.c.kv.dg.take p);have tlt:=val_lt_of_len (B:=18446744073709551616) (by omega) (K.td.take l) (k:=l) (by rw[List.length_take];omega);rw[N.htt]at tlt;refine(val_take_all (by omega) (spl_dg K.td h4) ?_).1;rw[hval,e];omega
 ·refine take_full (by rw[spl_len (by omega)];omega) ?_ hval
  rw[spl_drop_hi (by omega) (by omega),hTd]
theorem dr_sub2(C:DrT n B p lz lu s q2 bz oz cz bu ou cu bv ov cv b0 o0 bt ot n3 V w){a l lq:Nat}{lo R zv t' qq c:Int}{f:Bool}(K:DrV n B lz lu s q2 bz oz bu ou b0 o0 bt ot n3 w a l lq lo R zv (t'+18446744073709551616^p*c) qq f w')(hl:l<=2*B)(hpl:p<l)(h0:0<=t')(hc0:0<=c)(hc1:c<=1)(W:World)(fW:Fr [] w' W):
 Calls Tryz.prog 72 #[.slice (some ⟨bt,ot+p,none⟩) (l-p:Nat) (n3-p:Nat),.slice (some ⟨bt,ot+p,none⟩) (l-p:Nat) (n3-p:Nat),.int .u64 c] W fun e w2=>(∃c',e= .returned (.int .u64 c'))/\DrV n B lz lu s q2 bz oz bu ou b0 o0 bt ot n3 w a l lq lo R zv t' qq false w2:=by
 obtain⟨q',Uc,Zc,Qc,T,K,N⟩:=K;have KW:=K.fr0 fW;have htl:=K.tl;have few:=C.c.few;have n40:=C.c.n40;have hB:=C.c.hB;have h3:=C.h3;have hxl:((T.drop p).take (l-p)).length=l-p:=by rw[List.length_take,List.length_drop];omega
 have wx:=KW.t.sub p (l-p) (by omega);refine(subVWw_any bt (ot+p) (n3-p) bt (ot+p) (n3-p) (l-p) _ _ c W wx hxl hxl wx ((K.td.drop p).take _) (.inr ⟨rfl,rfl⟩) (by omega) (by omega) (by omega) (by omega) (by unfold maxLen;omega) (by unfold maxLen;omega) hc0 (by omega)).mono ?_;rintro e w2 ⟨us,c2,rfl,h1,h2,h3',h4,h5,h6,h7⟩;have M:=DrM.wt C KW (x:=p) h1 (by rw[h3'];exact h2) (by omega) h4;have hTd:=drop_zero_of (xs:=T) (l:=l) (by omega) (N.htt.trans N.ht.symm)
 have hval:val 18446744073709551616 (spl T p us)=t'+18446744073709551616^l*c2:=by
  rw[val_spl (by omega),h3',N.ht];have e2:(18446744073709551616:Int)^l=18446744073709551616^p*18446744073709551616^(l-p):=by rw[<-Int.pow_add];congr 1;omega
  rw[e2];generalize val 18446744073709551616 us=X1 at*;generalize val 18446744073709551616 ((T.drop p).take (l-p))=X2 at*;generalize(18446744073709551616:Int)^(l-p)=X3 at*;generalize(18446744073709551616:Int)^p=X4 at*;have:X1=X2+X3*c2-c:=by omega
  subst this;grind
 have hd2:val 18446744073709551616 ((spl T p us).drop l)=0:=by rw[spl_drop_hi (by omega) (by omega),hTd]
 have htk:=take_full (xs:=spl T p us) (l:=l) (by rw[spl_len (by omega)];omega) hd2 hval;have hlt:=val_lt_of_len (B:=18446744073709551616) (by omega) ((spl_dg (o:=p) K.td h4).take l) (k:=l) (by rw[List.length_take];omega)
 have hc2:c2=0:=by
  rcases(by omega:c2=0\/c2=1)with h|h
  ·exact h
  ·exfalso
   subst h;rw[htk]at hlt;omega
 subst hc2;rw[Int.mul_zero,Int.add_zero]at hval htk;exact⟨⟨_,rfl⟩,q',Uc,Zc,Qc,_,M,N.hlo,N.hR,N.hz,hval,htk,N.hq,fun hh=>by cases hh⟩
theorem dr_addu(C:DrT n B p lz lu s q2 bz oz cz bu ou cu bv ov cv b0 o0 bt ot n3 V w){a l lq:Nat}{lo R zv tq qq:Int}{f:Bool}(K:DrV n B lz lu s q2 bz oz bu ou b0 o0 bt ot n3 w a l lq lo R zv tq qq f w')(hl:l<=n){ox lx cx:Nat}(hox:ox=ou+(a+p))(hlx:lx=lu-a-p)(ha:a+n<=lu)(hcx:lx<=cx)(hcx9:cx<=9223372036854775807)
 (hR:R+18446744073709551616^p*val 18446744073709551616 (V.drop p)<18446744073709551616^(lu-a))(W:World)(fW:Fr [] w' W):
 Calls Tryz.prog 56 #[.slice (some ⟨bu,ox,none⟩) lx cx,.slice (some ⟨bv,ov+p,none⟩) (n-p:Nat) (cv-p:Nat)] W fun e w2=>e= .returned (.tuple #[])/\DrV n B lz lu s q2 bz oz bu ou b0 o0 bt ot n3 w a l lq lo (R+18446744073709551616^p*val 18446744073709551616 (V.drop p)) zv tq qq true w2:=by
 obtain⟨q',Uc,Zc,Qc,T,K,N⟩:=K;have KW:=K.fr0 fW;have hul:=K.ul;have few:=C.c.few;have n40:=C.c.n40;have hB:=C.c.hB;have hp:=C.c.hp;have lu9:=C.c.lu9;have hvl:=C.c.kv.len;have dvu:=C.c.dvu;have vW:=nm_drop (C.v' KW) (i:=p) (by omega);have hdl:(Uc.drop (a+p)).length=lx:=by rw[List.length_drop];omega
 have hvd:(V.drop p).length=n-p:=by rw[List.length_drop];omega
 have wx:=KW.u.drop (a+p) (by omega);rw[<-hox]at wx;refine(addTo_any bu ox cx lx _ bv (ov+p) (cv-p) (n-p) (Uc.drop (a+p)) (V.drop p) W wx hdl (K.ud.drop _) vW (C.c.kv.dg.drop p) hvd (by omega) (by omega) hcx (by unfold maxLen;omega) (fun _=>by unfold Dj at *;omega)).mono ?_;rintro e w2 ⟨us,c,rfl,h1,h2,h3',h4,h5,h6,h7⟩;rw[hox]at h1 h4;have M:=DrM.wu C KW (x:=a+p) h1 (by rw[h2];exact h4) (by omega) h3'
 have hval:val 18446744073709551616 ((spl Uc (a+p) us).drop a)=R+18446744073709551616^p*val 18446744073709551616 (V.drop p)-18446744073709551616^(lu-a)*c:=by
  rw[spl_drop_lo (by omega) (by omega),val_spl (by rw[List.length_drop];omega),List.drop_drop,N.hR,h2,show a+p-a=p by omega,List.take_of_length_le (by rw[hdl];omega)];have e2:(18446744073709551616:Int)^(lu-a)=18446744073709551616^p*18446744073709551616^lx:=by rw[<-Int.pow_add];congr 1;omega
  rw[e2];generalize val 18446744073709551616 us=X1 at*;generalize val 18446744073709551616 (Uc.drop (a+p))=X2 at*;generalize(18446744073709551616:Int)^lx=X3 at*;generalize(18446744073709551616:Int)^p=X4 at*;generalize val 18446744073709551616 (V.drop p)=X5 at*;have:X1=X2+X5-X3*c:=by omega
  subst this;grind
 have hpos:=val_nonneg (B:=18446744073709551616) (by omega) ((spl_dg (o:=a+p) K.ud h3').drop a)
 have hc:c=0:=by
  rcases(by omega:c=0\/c=1)with h|h
  ·exact h
  ·exfalso
   subst h;rw[hval]at hpos;omega
 subst hc;rw[Int.mul_zero,Int.sub_zero]at hval;refine⟨rfl,q',_,Zc,Qc,T,M,by rw[spl_take_lo (by omega) (by omega)];exact N.hlo,hval,N.hz,N.ht,N.htt,N.hq,fun _=> .inr ⟨hl,?_⟩⟩;have b1:=(C.c.kv.drop (i:=p) (by omega)).lo;have b2:(18446744073709551616:Int)^p*(9223372036854775808*18446744073709551616^(n-p-1))<=18446744073709551616^p*val 18446744073709551616 (V.drop p):=Int.mul_le_mul_of_nonneg_left b1 (Int.le_of_lt (pow_pos_ (by omega) _));have b3:(18446744073709551616:Int)^(n-1)=18446744073709551616^p*18446744073709551616^(n-p-1):=by rw[<-Int.pow_add];congr 1;omega
 have b4:(18446744073709551616:Int)^p*(9223372036854775808*18446744073709551616^(n-p-1))=9223372036854775808*(18446744073709551616^p*18446744073709551616^(n-p-1)):=by grind
 rw[b4,<- b3]at b2;have b5:=pow_pos_ (B:=18446744073709551616) (by omega) (n-1);have b6:=val_nonneg (B:=18446744073709551616) (by omega) (K.ud.drop a);rw[N.hR]at b6;omega
theorem dr_subu1(C:DrT n B p lz lu s q2 bz oz cz bu ou cu bv ov cv b0 o0 bt ot n3 V w){a l lq:Nat}{lo R zv tq qq:Int}{f:Bool}(K:DrV n B lz lu s q2 bz oz bu ou b0 o0 bt ot n3 w a l lq lo R zv tq qq f w')(hl:l<=n){oa ca:Nat}(hoa:oa=ou+a)(ha:a+n<=lu)(W:World)(fW:Fr [] w' W):
 Calls Tryz.prog 71 #[.slice (some ⟨bu,oa,none⟩) l ca,.slice (some ⟨bu,oa,none⟩) l ca,.slice (some ⟨bt,ot,none⟩) l n3] W fun e w2=> ∃c,e= .returned (.int .u64 c)/\0<=c/\c<=1/\(l=lu-a->tq<=R->c=0)/\DrV n B lz lu s q2 bz oz bu ou b0 o0 bt ot n3 w a l lq lo (R-tq+18446744073709551616^l*c) zv tq qq false w2:=by
 obtain⟨q',Uc,Zc,Qc,T,K,N⟩:=K;have KW:=K.fr0 fW;have hul:=K.ul;have htl:=K.tl;have few:=C.c.few;have n40:=C.c.n40;have h3:=C.h3;have dtu:=C.dtu;have hxl:((Uc.drop a).take l).length=l:=by rw[List.length_take,List.length_drop];omega
 have htk:(T.take l).length=l:=by rw[List.length_take];omega
 have wx:=KW.u.sub a l (by omega);rw[<-hoa]at wx;refine(subVVw_any bu oa ca bu oa ca bt ot n3 l _ _ (T.take l) W wx hxl hxl wx.src ((K.ud.drop a).take l) (.inr ⟨rfl,Nat.le_refl _⟩) htk (KW.t.take l (by omega)).src (K.td.take l) (.inl (by unfold Dj at *;omega)) (by omega)).mono ?_;rintro e w2 ⟨us,c,rfl,h1,h2,h3',h4,h5,h6,h7⟩;rw[hoa]at h1 h2;have M:=DrM.wu C KW (x:=a) h1 (by rw[h3'];exact h2) (by omega) h4;rw[N.htt]at h7
 have hval:val 18446744073709551616 ((spl Uc a us).drop a)=R-tq+18446744073709551616^l*c:=by
  rw[spl_drop_lo (Nat.le_refl _) (by omega),Nat.sub_self,val_spl (by rw[List.length_drop];omega),List.drop_zero,N.hR,h3',Int.pow_zero,Int.one_mul];omega
 refine⟨c,rfl,h5,h6,fun hll htR=> ?_,q',_,Zc,Qc,T,M,by rw[spl_take_lo (Nat.le_refl _) (by omega)];exact N.hlo,hval,N.hz,N.ht,N.htt,N.hq,fun hh=>by cases hh⟩;rcases(by omega:c=0\/c=1)with h|h
 ·exact h
 ·exfalso
  subst h;have:=val_lt_of_len (B:=18446744073709551616) (by omega) ((spl_dg (o:=a) K.ud h4).drop a) (k:=l) (by rw[List.length_drop,spl_len (by omega)];omega);rw[hval]at this;omega
theorem dr_subu2(C:DrT n B p lz lu s q2 bz oz cz bu ou cu bv ov cv b0 o0 bt ot n3 V w){a l lq:Nat}{lo R' zv tq qq c:Int}{f:Bool}(K:DrV n B lz lu s q2 bz oz bu ou b0 o0 bt ot n3 w a l lq lo (R'+18446744073709551616^l*c) zv tq qq f w')(h0:0<=R')(hc0:0<=c)(hc1:c<=1){ox lx cx:Nat}(hox:ox=ou+(a+l))(hlx:lx=lu-a-l)(hal:a+l<lu)(hcx:lx<=cx)(hcx9:cx<=9223372036854775807)(W:World)(fW:Fr [] w' W):
 Calls Tryz.prog 72 #[.slice (some ⟨bu,ox,none⟩) lx cx,.slice (some ⟨bu,ox,none⟩) lx cx,.int .u64 c] W fun e w2=>e= .returned (.int .u64 0)/\DrV n B lz lu s q2 bz oz bu ou b0 o0 bt ot n3 w a l lq lo R' zv tq qq false w2:=by
 obtain⟨q',Uc,Zc,Qc,T,K,N⟩:=K;have KW:=K.fr0 fW;have hul:=K.ul;have lu9:=C.c.lu9;have hdl:(Uc.drop (a+l)).length=lx:=by rw[List.length_drop];omega
 have wx:=KW.u.drop (a+l) (by omega);rw[<-hox]at wx;refine(subVWw_any bu ox cx bu ox cx lx _ _ c W wx hdl hdl wx (K.ud.drop _) (.inr ⟨rfl,rfl⟩) (by omega) (by omega) hcx hcx (by unfold maxLen;omega) (by unfold maxLen;omega) hc0 (by omega)).mono ?_;rintro e w2 ⟨us,c2,rfl,h1,h2,h3',h4,h5,h6,h7⟩;rw[hox]at h1 h2;have M:=DrM.wu C KW (x:=a+l) h1 (by rw[h3'];exact h2) (by omega) h4
 have hval:val 18446744073709551616 ((spl Uc (a+l) us).drop a)=R'+18446744073709551616^(lu-a)*c2:=by
  rw[spl_drop_lo (by omega) (by omega),val_spl (by rw[List.length_drop];omega),List.drop_drop,N.hR,h3',show a+(a+l-a)=a+l by omega,show a+l-a=l by omega,List.take_of_length_le (by rw[hdl];omega)];have e2:(18446744073709551616:Int)^(lu-a)=18446744073709551616^l*18446744073709551616^lx:=by rw[<-Int.pow_add];congr 1;omega
  rw[e2];generalize val 18446744073709551616 us=X1 at*;generalize val 18446744073709551616 (Uc.drop (a+l))=X2 at*;generalize(18446744073709551616:Int)^lx=X3 at*;generalize(18446744073709551616:Int)^l=X4 at*;have:X1=X2+X3*c2-c:=by omega
  subst this;grind
 have hlt:=val_lt_of_len (B:=18446744073709551616) (by omega) ((spl_dg (o:=a+l) K.ud h4).drop a) (k:=lu-a) (by rw[List.length_drop,spl_len (by omega)];omega)
 have hc2:c2=0:=by
  rcases(by omega:c2=0\/c2=1)with h|h
  ·exact h
  ·exfalso
   subst h;rw[hval]at hlt;omega
 subst hc2;rw[Int.mul_zero,Int.add_zero]at hval;exact⟨rfl,q',_,Zc,Qc,T,M,by rw[spl_take_lo (by omega) (by omega)];exact N.hlo,hval,N.hz,N.ht,N.htt,N.hq,fun hh=>by cases hh⟩
theorem dr_normq(C:DrT n B p lz lu s q2 bz oz cz bu ou cu bv ov cv b0 o0 bt ot n3 V w){a l lq:Nat}{lo R zv tq qq:Int}{f:Bool}(K:DrV n B lz lu s q2 bz oz bu ou b0 o0 bt ot n3 w a l lq lo R zv tq qq f w')(hlq:lq<=B+1):
 ∃i,i<=lq/\(∀k,qq<18446744073709551616^k->i<=k)/\(∀W,Fr [] w' W->Calls Tryz.prog 34 #[.slice (some ⟨b0,o0,none⟩) lq (B+1:Nat)] W fun e w2=>e= .returned (.slice (some ⟨b0,o0,none⟩) i (B+1:Nat))/\W=w2)/\DrV n B lz lu s q2 bz oz bu ou b0 o0 bt ot n3 w a l i lo R zv tq qq f w':=by
 obtain⟨q',Uc,Zc,Qc,T,K,N⟩:=K;obtain⟨i,hi⟩:=cut_at (Qc.take lq);have hcl:=K.cl;have few:=C.c.few;have hB:=C.c.hB;have hql:(Qc.take lq).length=lq:=by rw[List.length_take];omega
 have hilq:i<=lq:=by have:=hi.1;omega
 obtain⟨c1,c2,c3,c4⟩:=cut_facts (K.cd.take lq) hi;have e:(Qc.take lq).take i=Qc.take i:=by rw[List.take_take,Nat.min_eq_left hilq]
 rw[e]at c1 c2 c3 c4;refine⟨i,hilq,fun k hk=> ?_,fun W fW=> ?_,q',Uc,Zc,Qc,T,K,N.hlo,N.hR,N.hz,N.ht,N.htt,c4.trans N.hq,N.hnz⟩
 ·rw[<-c1]
  exact len_le (by omega) c2 c3 (by rw[c4,N.hq];exact hk)
 ·have:=normD_any b0 o0 (B+1) i (Qc.take lq) W ((K.c.fr0 fW).take lq (by omega)).src (by omega) (by unfold maxLen;omega) hi
  rwa[hql]at this
theorem dr_addz(C:DrT n B p lz lu s q2 bz oz cz bu ou cu bv ov cv b0 o0 bt ot n3 V w){a l lq:Nat}{lo R zv tq qq:Int}{f:Bool}(K:DrV n B lz lu s q2 bz oz bu ou b0 o0 bt ot n3 w a l lq lo R zv tq qq f w')(hlq:lq<=B+1){ox lx cx:Nat}(hox:ox=oz+a)(hlx:lx=lz-a)(ha:a<=lz)(hql:lq<=lx)(hcx:lx<=cx)(hcx9:cx<=9223372036854775807)(hzv:zv+18446744073709551616^a*qq<18446744073709551616^lz)(W:World)(fW:Fr [] w' W):
 Calls Tryz.prog 56 #[.slice (some ⟨bz,ox,none⟩) lx cx,.slice (some ⟨b0,o0,none⟩) lq (B+1:Nat)] W fun e w2=>e= .returned (.tuple #[])/\DrV n B lz lu s q2 bz oz bu ou b0 o0 bt ot n3 w a l lq lo R (zv+18446744073709551616^a*qq) tq qq f w2:=by
 obtain⟨q',Uc,Zc,Qc,T,K,N⟩:=K;have KW:=K.fr0 fW;have hzl:=K.zl;have hcl:=K.cl;have few:=C.c.few;have hB:=C.c.hB;have lz9:=C.c.lz9;have d0z:=C.c.d0z;have r0W:=C.c.r0.fc KW.fc;have hqq:(Qc.take lq).length=lq:=by rw[List.length_take];omega
 have hdl:(Zc.drop a).length=lx:=by rw[List.length_drop];omega
 have wx:=KW.z.drop a (by omega);rw[<-hox]at wx;refine(addTo_any bz ox cx lx _ b0 o0 (B+1) lq (Zc.drop a) (Qc.take lq) W wx hdl (K.zd.drop _) (Nm.of_wr (KW.c.take lq (by omega)) r0W (by omega)) (K.cd.take lq) hqq hql (by omega) hcx (by unfold maxLen;omega) (fun _=>by unfold Dj at *;omega)).mono ?_;rintro e w2 ⟨us,c,rfl,h1,h2,h3',h4,h5,h6,h7⟩;rw[hox]at h1 h4;rw[N.hq]at h7;have M:=DrM.wz C KW (x:=a) h1 (by rw[h2];exact h4) (by omega) h3'
 have hval:val 18446744073709551616 (spl Zc a us)=zv+18446744073709551616^a*qq-18446744073709551616^lz*c:=by
  rw[val_spl (by omega),N.hz,h2,List.take_of_length_le (by rw[hdl];omega)];have e2:(18446744073709551616:Int)^lz=18446744073709551616^a*18446744073709551616^lx:=by rw[<-Int.pow_add];congr 1;omega
  rw[e2];generalize val 18446744073709551616 us=X1 at*;generalize val 18446744073709551616 (Zc.drop a)=X2 at*;generalize(18446744073709551616:Int)^lx=X3 at*;generalize(18446744073709551616:Int)^a=X4 at*;have:X1=X2+qq-X3*c:=by omega
  subst this;grind
 have hpos:=val_nonneg (B:=18446744073709551616) (by omega) (spl_dg (o:=a) K.zd h3')
 have hc:c=0:=by
  rcases(by omega:c=0\/c=1)with h|h
  ·exact h
  ·exfalso
   subst h;rw[hval]at hpos;omega
 subst hc;rw[Int.mul_zero,Int.sub_zero]at hval;exact⟨rfl,q',Uc,_,Qc,T,M,N.hlo,N.hR,hval,N.ht,N.htt,N.hq,N.hnz⟩
end
structure DrL(lz lu s:Nat)(q1 q2:Option StkSt)(bz oz bu ou b0 o0 c0 bt ot n3:Nat)(w w2:World):Prop where
 le:StkLe w.heap.size q1 q2
 ll:lenS q1<=lenS q2
 fc:Fc 51 (DrS s q1 bz oz lz bu ou lu b0 o0 c0) w w2
 nw:bt<w.heap.size-> ∀i,ot<=i->i<ot+n3->StS s q1 bt i
section
variable {n B p lz lu s:Nat}{q1 q2 q':Option StkSt}{bz oz cz bu ou cu bv ov cv b0 o0 bt ot n3:Nat}{V Uc Zc Qc:List Int}{w w' W w2 w3:World}
theorem dr_nat(C:DrC n B p lz lu s q1 bz oz cz bu ou cu bv ov cv b0 o0 V w)(hlen:lenS q1+9500*(n+1)<=100000000000)(K:DrW B lz lu s q1 bz oz bu ou b0 o0 w q' Uc Zc Qc w')(h3:n3=3*n)(fW:Fr [] w' W)
 (hT: ∃L,Row .u64 51 w2 bt L/\ot+n3<=L.length)(st2:StkAt w2 s q2)(le2:StkLe W.heap.size q' q2)(l2:lenS q'<=lenS q2)(l2':lenS q2<=lenS q'+n3+3)(hf:Fc 51 (StS s q') W w2)(hnw:bt<W.heap.size-> ∀i,ot<=i->i<ot+n3->StS s q' bt i)(hoff: ∀i,ot<=i->i<ot+n3-> ¬StS s q2 bt i):
 DrT n B p lz lu s q2 bz oz cz bu ou cu bv ov cv b0 o0 bt ot n3 V w2/\DrL lz lu s q1 q2 bz oz bu ou b0 o0 (B+1) bt ot n3 w w2/\Wr 51 w2 bu ou Uc/\Wr 51 w2 bz oz Zc/\Wr 51 w2 b0 o0 Qc:=by
 have n40:=C.n40;have few:=C.few;have hB:=C.hB;have cv1:=C.cv1;have hll:=K.ll;have hvl:=C.kv.len;have s1:=K.fc.size;have s2:=fW.size;have s3:=hf.size;obtain⟨oz',ou',ov',o0'⟩:=C.offs K.le K.ll;have uW:=K.u.fr0 fW;have zW:=K.z.fr0 fW;have cW:=K.c.fr0 fW;have vW:=(C.v.fc K.fc C.von).fr0 fW;have r0W:=(C.r0.fc K.fc).fc (Fc.fr0 fW 51 (fun _ _=>False));have b1:=uW.lt;have b2:=zW.lt;have b3:=cW.lt;have b4:=vW.lt (by omega);have u2:Wr 51 w2 bu ou Uc:=uW.fc hf (by rw[K.ul];exact ou');have z2:Wr 51 w2 bz oz Zc:=zW.fc hf (by rw[K.zl];exact oz');have c2:Wr 51 w2 b0 o0 Qc:=cW.fc hf (by rw[K.cl];exact o0');have v2:Nm w2 (some ⟨bv,ov,none⟩) bv ov cv V:=vW.fc hf (by rw[hvl];exact Off.take ov' cv1);have g1:Glo w2 0 40:=((C.thr.fc K.fc (C.gn C.thr)).fr0 fW).fc hf (glo_stk ((C.thr.fc K.fc (C.gn C.thr)).fr0 fW) (K.st.fr0 fW) 0);have g2:Glo w2 1 40:=((C.td.fc K.fc (C.gn C.td)).fr0 fW).fc hf (glo_stk ((C.td.fc K.fc (C.gn C.td)).fr0 fW) (K.st.fr0 fW) 0);obtain⟨L,hL,hLl⟩:=hT;have leT:StkLe w.heap.size q1 q2:=K.le.trans le2 (by omega)
 refine⟨⟨⟨n40,few,hB,C.hp,C.lz9,C.lu9,C.cz1,C.cz9,C.cu1,C.cu9,cv1,C.cv9,g1,g2,st2,by omega,v2,C.kv,r0W.fc hf,⟨Zc,z2,K.zl⟩,⟨Uc,u2,K.ul⟩,C.dvu,C.dzu,C.dvz,C.d0u,C.d0z,C.d0v,off_le le2 l2 oz' b2,off_le le2 l2 ou' b1,off_le le2 l2 ov' b4,off_le le2 l2 o0' b3⟩,h3,Rcv.of_row hL hLl (by unfold maxLen;omega),(nat_dj hnw b1 ou').symm,(nat_dj hnw b2 oz').symm,(nat_dj hnw b4 (Off.take ov' cv1)).symm,(nat_dj hnw b3 o0').symm,nat_ne hnw b3 o0' (by omega) (by omega),nat_ne hnw b4 ov' (by omega) (by omega),hoff⟩,
  ⟨leT,by omega,(K.fc.t (Fc.fr0 fW _ _)).trans hf (fun b i hh hlt=> .inl (K.le.sub (Nat.le_of_eq K.ll.symm) b i hh hlt)),fun hlt i a1 a2=>K.le.sub (Nat.le_of_eq K.ll.symm) bt i (hnw (by omega) i a1 a2) hlt⟩,u2,z2,c2⟩
theorem dr_clear(C:DrT n B p lz lu s q2 bz oz cz bu ou cu bv ov cv b0 o0 bt ot n3 V w2)(u2:Wr 51 w2 bu ou Uc)(ul:Uc.length=lu)(ud:DG 18446744073709551616 Uc)(z2:Wr 51 w2 bz oz Zc)(zl:Zc.length=lz)(zd:DG 18446744073709551616 Zc)(c2:Wr 51 w2 b0 o0 Qc)(cl:Qc.length=B+1)(cd:DG 18446744073709551616 Qc)
 {L:List Int}(hL:Row .u64 51 w2 bt L)(hl:ot+n3<=L.length)(row:Row .u64 51 w3 bt (spl L ot (List.replicate n3 0)))(f:Fr [bt] w2 w3):
 DrM B lz lu s q2 bz oz bu ou b0 o0 bt ot n3 w2 q2 Uc Zc Qc (List.replicate n3 0) w3:=by
 have hlr:(List.replicate n3 (0:Int)).length=n3:=List.length_replicate;have hf:Fc 51 (In1 bt ot n3) w2 w3:=fc_row (L':=L) hL row f (by rw[hlr];exact hl) (fun i h1 h2=>⟨rfl,h1,by rw[hlr]at h2;exact h2⟩);refine⟨hf.mono (fun b i hh _=> .inr hh),C.c.st.fc hf (fun i hh=>C.c.st.row_ne hL hh.1.symm) (fun x hx i hh=>by subst hx;exact C.c.st.2.row_ne hL hh.1.symm),StkLe.refl _ _,rfl,u2.fc hf (by rw[ul];exact C.dtu.symm.off),ul,ud,z2.fc hf (by rw[zl];exact C.dtz.symm.off),zl,zd,c2.fc hf (by rw[cl];exact C.dt0.symm.off),cl,cd,Wr.of_spl row (by rw[hlr];exact hl),hlr,DG.rep (by omega) _⟩
theorem dr_back(L:DrL lz lu s q1 q2 bz oz bu ou b0 o0 (B+1) bt ot n3 w w2)(C:DrC n B p lz lu s q1 bz oz cz bu ou cu bv ov cv b0 o0 V w)(C2:DrT n B p lz lu s q2 bz oz cz bu ou cu bv ov cv b0 o0 bt ot n3 V w2){T:List Int}(K:DrM B lz lu s q2 bz oz bu ou b0 o0 bt ot n3 w2 q' Uc Zc Qc T w')(st:StkAt w3 s (resS (lenS q1) q'))(hf:Fc 51 (StS s q') w' w3):
 DrW B lz lu s q1 bz oz bu ou b0 o0 w (resS (lenS q1) q') Uc Zc Qc w3:=by
 obtain⟨oz',ou',ov',o0'⟩:=C2.c.offs K.le K.ll;have hsub: ∀b i,StS s q2 b i->b<w.heap.size->StS s q1 b i:=fun b i hh hlt=>L.le.sub L.ll b i hh hlt
 have s2:=L.fc.size;have ll:=K.ll;have l1:=L.ll;refine⟨(L.fc.trans K.fc (fun b i hh hlt=> ?_)).trans hf (fun b i hh hlt=> .inl (hsub b i (K.le.sub (Nat.le_of_eq K.ll.symm) b i hh (by omega)) hlt)),st,(L.le.trans K.le s2).res,lenS_res (fun hh=>by rw[hh]at ll;have e:lenS none=0:=rfl;omega),K.u.fc hf (by rw[K.ul];exact ou'),K.ul,K.ud,K.z.fc hf (by rw[K.zl];exact oz'),K.zl,K.zd,K.c.fc hf (by rw[K.cl];exact o0'),K.cl,K.cd⟩;rcases hh with(hh|hh|hh|hh)|hh
 ·exact .inl (hsub b i hh hlt)
 ·exact .inr (.inl hh)
 ·exact .inr (.inr (.inl hh))
 ·exact .inr (.inr (.inr hh))
 ·obtain⟨rfl,h1,h2⟩:=hh
  exact .inl (L.nw hlt i h1 h2)
end
end Go.Proofs.YthecibbmbnpegaaGreatDoor
end
section
namespace Go.Proofs.YthecibbmbnpegaaGreatDoor
open Go.Big Go.RowKit
structure DrQ(n B p a:Nat)(V Uc:List Int)(X qh R0:Int):Prop where
 xe:X=val 18446744073709551616 (Uc.drop a)
 qe:qh=val 18446744073709551616 (Uc.drop (a+p))/val 18446744073709551616 (V.drop p)
 re:R0=val 18446744073709551616 ((Uc.drop a).take p)+18446744073709551616^p*(val 18446744073709551616 (Uc.drop (a+p))%val 18446744073709551616 (V.drop p))
 q0:0<=qh
 q2:qh<18446744073709551616^(B+1)
 pb:qh*val 18446744073709551616 (V.take p)<18446744073709551616^(2*B)
 hfit:val 18446744073709551616 (Uc.drop (a+p))<9223372036854775808*18446744073709551616^(n-p+B)
 fit:qh*val 18446744073709551616 (V.take p)<=R0->X/val 18446744073709551616 V=qh/\X%val 18446744073709551616 V=R0-qh*val 18446744073709551616 (V.take p)
 over:R0<qh*val 18446744073709551616 (V.take p)->1<=qh/\val 18446744073709551616 (V.take p)<=qh*val 18446744073709551616 (V.take p)/\X/val 18446744073709551616 V=qh-1/\X%val 18446744073709551616 V=R0+18446744073709551616^p*val 18446744073709551616 (V.drop p)-(qh*val 18446744073709551616 (V.take p)-val 18446744073709551616 (V.take p))/\
  qh*val 18446744073709551616 (V.take p)-val 18446744073709551616 (V.take p)<=R0+18446744073709551616^p*val 18446744073709551616 (V.drop p)/\R0+18446744073709551616^p*val 18446744073709551616 (V.drop p)<=X
theorem dr_num{n B p a:Nat}{V Uc:List Int}(kv:KnV n V)(n40:40<=n)(hB:B=n/2)(hp:p+1=B)(hd:DG 18446744073709551616 Uc)(ha:a+p<=Uc.length)(hX:val 18446744073709551616 (Uc.drop a)<18446744073709551616^(n+B)):
 ∃X qh R0,DrQ n B p a V Uc X qh R0:=by
 have hvl:=kv.len;have e0:=val_drop_split (xs:=Uc) (a:=a) (p:=p) ha;have eV:=val_split 18446744073709551616 V p (by omega);have hv1:=(kv.drop (i:=p) (by omega)).lo;have V0n:=val_nonneg (B:=18446744073709551616) (by omega) (kv.dg.take p);have V0l:=val_lt_of_len (B:=18446744073709551616) (by omega) (kv.dg.take p) (k:=p) (by rw[List.length_take];omega);have ulo0:=val_nonneg (B:=18446744073709551616) (by omega) ((hd.drop a).take p);have ulo1:=val_lt_of_len (B:=18446744073709551616) (by omega) ((hd.drop a).take p) (k:=p) (by rw[List.length_take,List.length_drop];omega);have uhi0:=val_nonneg (B:=18446744073709551616) (by omega) (hd.drop (a+p));obtain⟨X,eX⟩: ∃X,X=val 18446744073709551616 (Uc.drop a):=⟨_,rfl⟩;obtain⟨uhi,euhi⟩: ∃x,x=val 18446744073709551616 (Uc.drop (a+p)):=⟨_,rfl⟩;obtain⟨ulo,eulo⟩: ∃x,x=val 18446744073709551616 ((Uc.drop a).take p):=⟨_,rfl⟩;obtain⟨V1,eV1⟩: ∃x,x=val 18446744073709551616 (V.drop p):=⟨_,rfl⟩;obtain⟨V0,eV0⟩: ∃x,x=val 18446744073709551616 (V.take p):=⟨_,rfl⟩;obtain⟨Y,eY⟩: ∃x,x=val 18446744073709551616 V:=⟨_,rfl⟩;rw[show n-p-1=n-B by omega]at hv1;obtain⟨P,hP⟩: ∃P,P=(18446744073709551616:Int)^p:=⟨_,rfl⟩;have hP0:0<P:=by rw[hP];exact pow_pos_ (by omega) _
 have hR0:=pow_pos_ (B:=18446744073709551616) (by omega) (n-B);rw[<-eX,<- eulo,<- euhi,<- hP]at e0;rw[<-eY,<- eV0,<- eV1,<- hP]at eV;rw[<-eV1]at hv1;rw[<-eV0]at V0n V0l;rw[<-eulo]at ulo0 ulo1;rw[<-euhi]at uhi0;rw[<-eX]at hX;rw[<-hP]at V0l ulo1;have hV1p:0<V1:=by omega
 obtain⟨qh,eqh⟩: ∃x,x=uhi/V1:=⟨_,rfl⟩;obtain⟨rem,erem⟩: ∃x,x=uhi%V1:=⟨_,rfl⟩;have hq:uhi=qh*V1+rem:=by rw[eqh,erem,Int.mul_comm];exact(Int.mul_ediv_add_emod _ _).symm
 have hr0:0<=rem:=by rw[erem];exact Int.emod_nonneg _ (by omega)
 have hr1:rem<V1:=by rw[erem];exact Int.emod_lt_of_pos _ hV1p
 have hq0:0<=qh:=by rw[eqh];exact Int.ediv_nonneg uhi0 (by omega)
 have eV':Y=V1*P+V0:=by rw[eV,Int.mul_comm P V1];omega
 have e0':X=uhi*P+ulo:=by rw[e0,Int.mul_comm P uhi];omega
 have hpB:p=B-1:=by omega
 obtain⟨g1,g2,g3⟩:=dr_guess (n:=n) (B:=B) (V:=Y) (V1:=V1) (V0:=V0) (uu:=X) (uhi:=uhi) (ulo:=ulo) (qh:=qh) (rem:=rem) (by omega) (by omega) (by rw[<-hpB,<- hP];exact eV') V0n (by rw[<-hpB,<- hP];exact V0l) hv1 (by rw[<-hpB,<- hP];exact e0') ulo0 hX hq hr0 hq0;have hrP:0<=P*rem:=Int.mul_nonneg (by omega) hr0;have hqV:0<=qh*V0:=Int.mul_nonneg hq0 V0n;refine⟨X,qh,ulo+P*rem,eX,by rw[eqh,euhi,eV1],by rw[eulo,erem,hP,euhi,eV1],hq0,?_,by rw[<-eV0];exact g3,?_,?_,?_⟩
 ·rw[Int.pow_succ]
  have:=pow_pos_ (B:=18446744073709551616) (by omega) B;omega
 ·rw[<-euhi]
  have h1:uhi*P<18446744073709551616^(n-p+B)*P:=by
   rw[hP,<- Int.pow_add,show n-p+B+p=n+B by omega,<- hP];omega
  have h2:uhi<18446744073709551616^(n-p+B):=Int.lt_of_mul_lt_mul_right h1 (by omega);have:=pow_pos_ (B:=18446744073709551616) (by omega) (n-p+B);omega
 ·rw[<-eV0,<- eY]
  intro hc;have:=dr_fit eV' V0n e0' ulo0 ulo1 hq hq0 hr1 hP0 (by rw[Int.mul_comm rem P];omega);rw[Int.mul_comm rem P]at this;exact⟨this.1,by omega⟩
 ·rw[<-eV0,<- eY,<- eV1,<- hP]
  intro hc
  have h1:1<=qh:=by
   rcases(by omega:qh=0\/1<=qh)with h|h
   ·rw[h,Int.zero_mul]at hc
    omega
   ·exact h
  have h2:V0<=qh*V0:=by
   have:1*V0<=qh*V0:=Int.mul_le_mul_of_nonneg_right h1 V0n;omega
  have:=dr_over eV' e0' ulo0 hq hr0 hP0 (by rw[Int.mul_comm rem P];omega) g2;rw[Int.mul_comm rem P,Int.mul_comm V1 P]at this;obtain⟨b1,b2,b3⟩:=this;refine⟨h1,h2,b1,by omega,by omega,?_⟩;have h3:1*(V1*P)<=qh*(V1*P):=Int.mul_le_mul_of_nonneg_right h1 (by have:=Int.mul_pos hV1p hP0;omega);have h4:uhi*P=qh*(V1*P)+P*rem:=by rw[hq];grind
  have h5:P*V1=V1*P:=Int.mul_comm _ _;omega
theorem dr_qlen{n B p a lz:Nat}{V Uc:List Int}{X qh R0:Int}(Q:DrQ n B p a V Uc X qh R0)(kv:KnV n V)(n40:40<=n)(hB:B=n/2)(hp:p+1=B)(hd:DG 18446744073709551616 Uc)(ha:a+p<=Uc.length)(hX:X<9223372036854775808*18446744073709551616^(n+B-1)):qh<18446744073709551616^B:=by
 have hv1:=(kv.drop (i:=p) (by have:=kv.len;omega)).lo;have e0:=val_drop_split (xs:=Uc) (a:=a) (p:=p) ha;have ulo0:=val_nonneg (B:=18446744073709551616) (by omega) ((hd.drop a).take p);rw[<-Q.xe]at e0;have hR0:=pow_pos_ (B:=18446744073709551616) (by omega) (n-p-1);have hP0:=pow_pos_ (B:=18446744073709551616) (by omega) p;have hqe:=Q.qe;generalize val 18446744073709551616 (V.drop p)=V1 at*;generalize val 18446744073709551616 (Uc.drop (a+p))=uhi at*;generalize val 18446744073709551616 ((Uc.drop a).take p)=ulo at*
 have h1:qh*V1<=uhi:=by
  rw[hqe];exact Int.ediv_mul_le _ (by omega)
 rcases Int.lt_or_le qh (18446744073709551616^B)with h|h
 ·exact h
 ·exfalso
  have eN:(18446744073709551616:Int)^(n+B-1)=18446744073709551616^p*(18446744073709551616^B*18446744073709551616^(n-p-1)):=by
   rw[<-Int.pow_add,<- Int.pow_add];congr 1;omega
  have hB0:=pow_pos_ (B:=18446744073709551616) (by omega) B
  have c1:18446744073709551616^B*(9223372036854775808*18446744073709551616^(n-p-1))<=qh*V1:=by
   have d1:18446744073709551616^B*(9223372036854775808*18446744073709551616^(n-p-1))<=18446744073709551616^B*V1:=Int.mul_le_mul_of_nonneg_left hv1 (by omega);have d2:18446744073709551616^B*V1<=qh*V1:=Int.mul_le_mul_of_nonneg_right h (by omega);omega
  have c2:18446744073709551616^p*(18446744073709551616^B*(9223372036854775808*18446744073709551616^(n-p-1)))<=18446744073709551616^p*uhi:=Int.mul_le_mul_of_nonneg_left (by omega) (by omega);have c3:(18446744073709551616:Int)^p*(18446744073709551616^B*(9223372036854775808*18446744073709551616^(n-p-1)))=9223372036854775808*(18446744073709551616^p*(18446744073709551616^B*18446744073709551616^(n-p-1))):=by grind
  rw[eN]at hX;omega
structure DrH(B lz lu s:Nat)(q1:Option StkSt)(bz oz bu ou b0 o0:Nat)(w:World)(q':Option StkSt)(Uc Zc:List Int)(w':World):Prop where
 fc:Fc 51 (DrS s q1 bz oz lz bu ou lu b0 o0 (B+1)) w w'
 st:StkAt w' s q'
 le:StkLe w.heap.size q1 q'
 ll:lenS q'=lenS q1
 u:Wr 51 w' bu ou Uc
 ul:Uc.length=lu
 ud:DG 18446744073709551616 Uc
 z:Wr 51 w' bz oz Zc
 zl:Zc.length=lz
 zd:DG 18446744073709551616 Zc
def DrI(n B m lz lu s:Nat)(q1:Option StkSt)(bz oz bu ou b0 o0:Nat)(V:List Int)(U0:Int)(w:World)(j:Nat)(w':World):Prop:=
 ∃q' Uc Zc,DrH B lz lu s q1 bz oz bu ou b0 o0 w q' Uc Zc w'/\j<=m/\val 18446744073709551616 Uc+val 18446744073709551616 V*val 18446744073709551616 Zc=U0/\val 18446744073709551616 Uc<18446744073709551616^(n+j)/\(j=lz->val 18446744073709551616 Uc<9223372036854775808*18446744073709551616^(n+j-1))
def DrR(n B m lz lu s:Nat)(q1:Option StkSt)(bz oz bu ou b0 o0:Nat)(V:List Int)(U0:Int)(w:World)(g:Nat)(jv:Value)(w':World):Prop:= ∃j:Nat,g=j/\jv= .int .i64 j/\DrI n B m lz lu s q1 bz oz bu ou b0 o0 V U0 w j w'
section
variable {n B p m lz lu s:Nat}{q1 q2 q':Option StkSt}{bz oz cz bu ou cu bv ov cv b0 o0 bt ot n3:Nat}{V Uc Zc Qc:List Int}{U0:Int}{w w' W w2 w3:World}
theorem DrH.row(H:DrH B lz lu s q1 bz oz bu ou b0 o0 w q' Uc Zc w')(C:DrC n B p lz lu s q1 bz oz cz bu ou cu bv ov cv b0 o0 V w): ∃L,Row .u64 51 w' b0 L/\o0+(B+1)<=L.length:=(C.r0.fc H.fc).row (by omega)
theorem dr_clr0(C:DrC n B p lz lu s q1 bz oz cz bu ou cu bv ov cv b0 o0 V w)(H:DrH B lz lu s q1 bz oz bu ou b0 o0 w q' Uc Zc w'){L:List Int}(hL:Row .u64 51 w' b0 L)(hl:o0+(B+1)<=L.length)(row:Row .u64 51 w2 b0 (spl L o0 (List.replicate (B+1) 0)))(f:Fr [b0] w' w2):
 DrW B lz lu s q1 bz oz bu ou b0 o0 w q' Uc Zc (List.replicate (B+1) 0) w2:=by
 have hlr:(List.replicate (B+1) (0:Int)).length=B+1:=List.length_replicate;have hf:Fc 51 (In1 b0 o0 (B+1)) w' w2:=fc_row (L':=L) hL row f (by rw[hlr];exact hl) (fun i h1 h2=>⟨rfl,h1,by rw[hlr]at h2;exact h2⟩);exact⟨H.fc.t (hf.mono (fun b i hh _=> .inr (.inr (.inr hh)))),H.st.fc hf (fun i hh=>H.st.row_ne hL hh.1.symm) (fun x hx i hh=>by subst hx;exact H.st.2.row_ne hL hh.1.symm),H.le,H.ll,H.u.fc hf (by rw[H.ul];exact C.d0u.symm.off),H.ul,H.ud,H.z.fc hf (by rw[H.zl];exact C.d0z.symm.off),H.zl,H.zd,Wr.of_spl row (by rw[hlr];exact hl),hlr,DG.rep (by omega) _⟩
theorem DrW.h(K:DrW B lz lu s q1 bz oz bu ou b0 o0 w q' Uc Zc Qc w'):DrH B lz lu s q1 bz oz bu ou b0 o0 w q' Uc Zc w':=⟨K.fc,K.st,K.le,K.ll,K.u,K.ul,K.ud,K.z,K.zl,K.zd⟩
theorem dr_next{j a:Nat}{lo X zv:Int}(kv:KnV n V)(hdU:DG 18446744073709551616 Uc)(hB:0<B)(hj:a+B=j)(hjm:j<=m)(hml:m<=lz)(h0:lo+18446744073709551616^a*X+val 18446744073709551616 V*zv=U0)(hl0:val 18446744073709551616 (Uc.take a)=lo)(hal:a<=Uc.length)(hR:val 18446744073709551616 (Uc.drop a)=X%val 18446744073709551616 V)(hz:val 18446744073709551616 Zc=zv+18446744073709551616^a*(X/val 18446744073709551616 V))(H:DrH B lz lu s q1 bz oz bu ou b0 o0 w q' Uc Zc w'):
 DrI n B m lz lu s q1 bz oz bu ou b0 o0 V U0 w a w':=by
 have e:=val_split 18446744073709551616 Uc a hal;have hV:=kv.hi;have hVp:=kv.pos;have hr:=Int.emod_lt_of_pos X hVp;have hp:=pow_pos_ (B:=18446744073709551616) (by omega) a;have llt:=val_lt_of_len (B:=18446744073709551616) (by omega) (hdU.take a) (k:=a) (by rw[List.length_take];omega);rw[hl0]at llt e;rw[hR]at e;refine⟨q',Uc,Zc,H,by omega,?_,?_,fun hh=>by omega⟩
 ·rw[e,hz,<- h0]
  have:=Int.mul_ediv_add_emod X (val 18446744073709551616 V);generalize val 18446744073709551616 V=Y at*;generalize X/Y=d at*;generalize X%Y=r at*;generalize(18446744073709551616:Int)^a=P at*;subst this;grind
 ·rw[e,Int.pow_add]
  have h1:18446744073709551616^a*(X%val 18446744073709551616 V+1)<=18446744073709551616^a*18446744073709551616^n:=Int.mul_le_mul_of_nonneg_left (by omega) (by omega);rw[Int.mul_add,Int.mul_one]at h1;rw[Int.mul_comm (18446744073709551616^n)];omega
end
end Go.Proofs.YthecibbmbnpegaaGreatDoor
end
section
namespace Go.Proofs.YthecibbmbnpegaaGreatDoor
open Go.Big Go.RowKit
attribute [local go_sem ↓] Go.wp_at_zero Go.wp_at_succ
section
variable {n B p m i lz lu s:Nat}{q q1 q2 q':Option StkSt}{bz oz cz bu ou cu bv ov cv b0 o0 bt ot n3:Nat}{U V Uc Zc Qc T:List Int}{w w1 w2 w':World}
theorem dr_ctx0(h:DrPre n lu lz s q bz oz cz bu ou cu bv ov cv U V w)(hi:CutAt U i)(hm:i=m+n)(n40:40<=n)(hB:B=n/2)(hp:p+1=B)
 (hT: ∃L,Row .u64 51 w1 b0 L/\o0+(B+1)<=L.length)(st1:StkAt w1 s q1)(le:StkLe w.heap.size q q1)(l:lenS q<=lenS q1)(l':lenS q1<=lenS q+(B+1)+3)(hf:Fc 51 (StS s q) w w1)(hnw:b0<w.heap.size-> ∀j,o0<=j->j<o0+(B+1)->StS s q b0 j)(hoff: ∀j,o0<=j->j<o0+(B+1)-> ¬StS s q1 b0 j):
 DrC n B p lz i s q1 bz oz cz bu ou cu bv ov cv b0 o0 V w1/\lenS q1+9500*(n+1)<=100000000000/\DrI n B m lz i s q1 bz oz bu ou b0 o0 V (val 18446744073709551616 U) w1 m w1/\m<=lz:=by
 have hil:=hi.1;rw[h.ul]at hil;have hlen:=h.len;have few:=h.few;have cu1:=h.cu1;have lu9:=h.lu9;have hvn:=h.vn;have hvl:=h.kv.len;have hml:=h.ulen hi;obtain⟨c1,c2,c3,c4⟩:=cut_facts h.ud hi;have b1:=h.u.lt;have b2:=h.z.lt;have b3:=h.v.lt (by omega);have ou':Off (StS s q) bu ou i:=Off.take h.ou_ hil;have u0:=h.u.take i (by rw[h.ul];exact hil);have u1:Wr 51 w1 bu ou (U.take i):=u0.fc hf (by rw[c1];exact ou');have z1:Wr 51 w1 bz oz (List.replicate lz 0):=h.z.fc hf (by rw[List.length_replicate];exact h.oz_);have v1:Nm w1 (some ⟨bv,ov,none⟩) bv ov cv V:=h.v.fc hf (by rw[hvl];exact Off.take h.ov_ hvn);obtain⟨L,hL,hLl⟩:=hT
 have C:DrC n B p lz i s q1 bz oz cz bu ou cu bv ov cv b0 o0 V w1:=
  ⟨n40,few,hB,hp,h.lz9,by omega,h.cz1,h.cz9,by omega,h.cu9,hvn,h.cv9,h.thr.fc hf (glo_stk h.thr h.st 0),h.td.fc hf (glo_stk h.td h.st 0),st1,by omega,v1,h.kv,Rcv.of_row hL hLl (by unfold maxLen;omega),⟨_,z1,List.length_replicate⟩,⟨_,u1,c1⟩,h.dvu.sub1 (Nat.le_refl _) hil,h.dzu.sub1 (Nat.le_refl _) hil,h.dvz,(nat_dj hnw b1 ou').symm,(nat_dj hnw b2 h.oz_).symm,(nat_dj hnw b3 (Off.take h.ov_ hvn)).symm,off_le le l h.oz_ b2,off_le le l ou' b1,off_le le l h.ov_ b3,hoff⟩;refine⟨C,by omega,⟨q1,U.take i,List.replicate lz 0,⟨Fc.refl _ _ _,st1,StkLe.refl _ _,rfl,u1,c1,c2,z1,List.length_replicate,DG.rep (by omega) _⟩,Nat.le_refl _,by rw[val_rep,c4];omega,?_,fun hh=> ?_⟩,by omega⟩
 ·have:=val_lt_of_len (B:=18446744073709551616) (by omega) c2 (k:=n+m) (by omega)
  exact this
 ·rw[c4,hh]
  exact h.fit
theorem dr_end(h:DrPre n lu lz s q bz oz cz bu ou cu bv ov cv U V w)(hi:CutAt U i)(le:StkLe w.heap.size q q1)(l:lenS q<=lenS q1)(hf:Fc 51 (StS s q) w w1)(hnw:b0<w.heap.size-> ∀j,o0<=j->j<o0+(B+1)->StS s q b0 j)
 (L:DrL lz i s q1 q2 bz oz bu ou b0 o0 (B+1) bt ot n3 w1 w2)(C2:DrT n B p lz i s q2 bz oz cz bu ou cu bv ov cv b0 o0 bt ot n3 V w2)(K:DrM B lz i s q2 bz oz bu ou b0 o0 bt ot n3 w2 q' Uc Zc Qc T w')(hz:val 18446744073709551616 Zc=val 18446744073709551616 U/val 18446744073709551616 V)(hu:val 18446744073709551616 Uc=val 18446744073709551616 U%val 18446744073709551616 V):
 StkAt w' s q'/\(∀p,q'=some p->lenS q<=p.cap)/\ ∀w3,StkAt w3 s (resS (lenS q) q')->Fc 51 (StS s q') w' w3->DrPost s q bz oz lz bu ou lu (val 18446744073709551616 U) (val 18446744073709551616 V) w (.returned (.tuple #[])) w3:=by
 have ll:=K.ll;have l1:=L.ll;have s0:=hf.size;have s1:=L.fc.size;obtain⟨oz',ou',ov',o0'⟩:=C2.c.offs K.le K.ll;refine⟨K.st,fun x hx=> ?_,fun w3 h3 hf3=> ?_⟩
 ·subst hx
  have h4:=K.st.2.2.2.1;have e:lenS (some x)=x.len:=rfl;omega
 ·have q1q: ∀b j,StS s q1 b j->b<w.heap.size->StS s q b j:=fun b j hh hlt=>le.sub l b j hh hlt
  have q2q: ∀b j,StS s q2 b j->b<w.heap.size->StS s q b j:=fun b j hh hlt=>q1q b j (L.le.sub L.ll b j hh (by omega)) hlt
  have F2:Fc 51 (fun b j=>StS s q b j\/In1 bz oz lz b j\/In1 bu ou i b j) w w2:=(hf.mono (fun b j hh _=> .inl hh)).trans L.fc (fun b j hh hlt=>by
   rcases hh with hh|hh|hh|hh
   ·exact .inl (q1q b j hh hlt)
   ·exact .inr (.inl hh)
   ·exact .inr (.inr hh)
   ·obtain⟨rfl,h1,h2⟩:=hh
    exact .inl (hnw hlt j h1 h2))
  have F3:Fc 51 (fun b j=>StS s q b j\/In1 bz oz lz b j\/In1 bu ou i b j) w w':=F2.trans K.fc (fun b j hh hlt=>by
   rcases hh with(hh|hh|hh|hh)|hh
   ·exact .inl (q2q b j hh hlt)
   ·exact .inr (.inl hh)
   ·exact .inr (.inr hh)
   ·obtain⟨rfl,h1,h2⟩:=hh
    exact .inl (hnw hlt j h1 h2)
   ·obtain⟨rfl,h1,h2⟩:=hh
    exact .inl (q1q _ j (L.nw (by omega) j h1 h2) hlt));have F4:Fc 51 (fun b j=>StS s q b j\/In1 bz oz lz b j\/In1 bu ou i b j) w w3:=F3.trans hf3 (fun b j hh hlt=> .inl (q2q b j (K.le.sub (Nat.le_of_eq K.ll.symm) b j hh (by omega)) hlt));exact DrPost.full (i:=i) ⟨_,Zc,Uc,rfl,h3,((le.trans L.le s0).trans K.le (by omega)).res,lenS_res (fun hh=>by rw[hh]at ll;have e:lenS none=0:=rfl;omega),K.z.fc hf3 (by rw[K.zl];exact oz'),K.zl,K.zd,hz,K.u.fc hf3 (by rw[K.ul];exact ou'),K.ul,K.ud,hu,F4⟩ h.u h.ul h.ud hi h.dzu h.ou_
end
def CutV(v:Value)(P:World->Prop)(s0:Value)(wx:World):Prop:=s0=v/\P wx
def DrE(p:Nat)(V:List Int)(X R tq qq:Int)(i:Nat):Prop:=
 (tq<=R->X/val 18446744073709551616 V=qq/\X%val 18446744073709551616 V=R-tq)/\
 (R<tq->i=0/\1<=qq/\val 18446744073709551616 (V.take p)<=tq/\X/val 18446744073709551616 V=qq-1/\X%val 18446744073709551616 V=R+18446744073709551616^p*val 18446744073709551616 (V.drop p)-(tq-val 18446744073709551616 (V.take p))/\
   tq-val 18446744073709551616 (V.take p)<=R+18446744073709551616^p*val 18446744073709551616 (V.drop p)/\R+18446744073709551616^p*val 18446744073709551616 (V.drop p)<=X)
theorem DrQ.e0{n B p a:Nat}{V Uc:List Int}{X qh R0:Int}(Q:DrQ n B p a V Uc X qh R0):DrE p V X R0 (qh*val 18446744073709551616 (V.take p)) qh 0:=
 ⟨Q.fit,fun h=>⟨rfl,Q.over h⟩⟩
theorem DrE.next{p i:Nat}{V:List Int}{X R tq qq:Int}(E:DrE p V X R tq qq i)(h:R<tq):DrE p V X (R+18446744073709551616^p*val 18446744073709551616 (V.drop p)) (tq-val 18446744073709551616 (V.take p)) (qq-1) 1:=by
 obtain⟨_,h1,h2,h3,h4,h5,h6⟩:=E.2 h;exact⟨fun _=>⟨h3,h4⟩,fun hh=>by omega⟩
theorem DrE.same{p i:Nat}{V:List Int}{X R tq qq:Int}(E:DrE p V X R tq qq i)(h:tq<=R)(k:Nat):DrE p V X R tq qq k:=⟨E.1,fun hh=>by omega⟩
def DrGu(B lz lu s:Nat)(q1:Option StkSt)(bz oz bu ou b0 o0:Nat)(w:World)(Zc:List Int)(P:List Int->List Int->Prop)(w':World):Prop:= ∃q3 Uc3 Qc3,DrW B lz lu s q1 bz oz bu ou b0 o0 w q3 Uc3 Zc Qc3 w'/\P Uc3 Qc3
theorem cmp_le{a b:Int}(h:a<=b):cmpI a b<=0:=by unfold cmpI;split<;>(try split)<;>omega
theorem cmp_gt{a b:Int}(h:b<a): ¬cmpI a b<=0:=by unfold cmpI;split<;>(try split)<;>omega
theorem DrV.fr0{n B lz lu s:Nat}{q2:Option StkSt}{bz oz bu ou b0 o0 bt ot n3:Nat}{w w' w2:World}{a l lq:Nat}{lo R zv tq qq:Int}{f:Bool}(K:DrV n B lz lu s q2 bz oz bu ou b0 o0 bt ot n3 w a l lq lo R zv tq qq f w')(hf:Fr [] w' w2):DrV n B lz lu s q2 bz oz bu ou b0 o0 bt ot n3 w a l lq lo R zv tq qq f w2:=by
 obtain⟨q',Uc,Zc,Qc,T,M,N⟩:=K;exact⟨q',Uc,Zc,Qc,T,M.fr0 hf,N⟩
theorem dr_cap{w:World}{s k:Nat}{q:Option StkSt}(h:StkAt w s q)(hk:k<=lenS q): ∀x,q=some x->k<=x.cap:=by
 intro x hx;subst hx;have h4:=h.2.2.2.1;have e:lenS (some x)=x.len:=rfl;omega
def DrJ(M n B p lz lu s:Nat)(q2:Option StkSt)(bz oz bu ou b0 o0 bt ot n3:Nat)(w:World)(a l lq:Nat)(lo zv X:Int)(V:List Int)(g:Nat)(iv:Value)(w':World):Prop:=
 ∃i:Nat,i<=M/\g=M-i/\iv= .int .i64 i/\ ∃R tq qq,DrV n B lz lu s q2 bz oz bu ou b0 o0 bt ot n3 w a l lq lo R zv tq qq true w'/\DrE p V X R tq qq i
theorem dr_hv{n B p a lx:Nat}{Uc:List Int}(hd:DG 18446744073709551616 Uc)(ha:a+p<=Uc.length)(hX:val 18446744073709551616 (Uc.drop a)<18446744073709551616^(n+B))(hpn:p<=n)(hlx:lx=B+n-p):val 18446744073709551616 ((Uc.drop (a+p)).take lx)=val 18446744073709551616 (Uc.drop (a+p)):=by
 refine(val_take_all (by omega) (hd.drop _) ?_).1;have e0:=val_drop_split (xs:=Uc) (a:=a) (p:=p) ha;have u0:=val_nonneg (B:=18446744073709551616) (by omega) ((hd.drop a).take p);have e2:(18446744073709551616:Int)^(n+B)=18446744073709551616^p*18446744073709551616^lx:=by rw[<-Int.pow_add];congr 1;omega
 rw[e2]at hX;exact Int.lt_of_mul_lt_mul_left (by omega) (Int.le_of_lt (pow_pos_ (B:=18446744073709551616) (by omega) p))
theorem dr_xlz{n B a j:Nat}{Uc:List Int}(hd:DG 18446744073709551616 Uc)(ha:a<=Uc.length)(hj:a+B=j)(hB:0<n+B)(h:val 18446744073709551616 Uc<9223372036854775808*18446744073709551616^(n+j-1)):val 18446744073709551616 (Uc.drop a)<9223372036854775808*18446744073709551616^(n+B-1):=by
 have e:=val_split 18446744073709551616 Uc a ha;have u0:=val_nonneg (B:=18446744073709551616) (by omega) (hd.take a);have e2:(18446744073709551616:Int)^(n+j-1)=18446744073709551616^a*18446744073709551616^(n+B-1):=by rw[<-Int.pow_add];congr 1;omega
 rw[e2]at h;have e3:(9223372036854775808:Int)*(18446744073709551616^a*18446744073709551616^(n+B-1))=18446744073709551616^a*(9223372036854775808*18446744073709551616^(n+B-1)):=by grind
 rw[e3]at h;exact Int.lt_of_mul_lt_mul_left (by omega) (Int.le_of_lt (pow_pos_ (B:=18446744073709551616) (by omega) a))
theorem dr_zfit{n a lz:Nat}{V Uc:List Int}{U0 zv:Int}(kv:KnV n V)(hd:DG 18446744073709551616 Uc)(ha:a<=Uc.length)(hs:val 18446744073709551616 Uc+val 18446744073709551616 V*zv=U0)(hU:U0<val 18446744073709551616 V*18446744073709551616^lz):
 zv+18446744073709551616^a*(val 18446744073709551616 (Uc.drop a)/val 18446744073709551616 V)<18446744073709551616^lz:=by
 have e:=val_split 18446744073709551616 Uc a ha;have u0:=val_nonneg (B:=18446744073709551616) (by omega) (hd.take a);have hp:=pow_pos_ (B:=18446744073709551616) (by omega) a;have hV:=kv.pos;have h1:=Int.mul_ediv_add_emod (val 18446744073709551616 (Uc.drop a)) (val 18446744073709551616 V);have h2:=Int.emod_nonneg (val 18446744073709551616 (Uc.drop a)) (show val 18446744073709551616 V≠0 by omega);generalize val 18446744073709551616 V=Y at*;generalize val 18446744073709551616 (Uc.drop a)/Y=d at*;generalize val 18446744073709551616 (Uc.drop a)%Y=r at*;generalize val 18446744073709551616 (Uc.drop a)=X at*;generalize val 18446744073709551616 (Uc.take a)=lo at*;generalize val 18446744073709551616 Uc=W at*;generalize(18446744073709551616:Int)^a=P at*;generalize(18446744073709551616:Int)^lz=L at*;have h3:0<=P*r:=Int.mul_nonneg (by omega) h2
 have h4:Y*(zv+P*d)<Y*L:=by
  have:Y*(zv+P*d)=U0-lo-P*r:=by subst h1;subst e;subst hs;grind
  omega
 exact Int.lt_of_mul_lt_mul_left h4 (by omega)
theorem dr_fin{X Y zv U0:Int}(hY:0<Y)(h:X+Y*zv=U0):zv+X/Y=U0/Y/\X%Y=U0%Y:=by
 subst h;rw[Int.add_mul_ediv_left _ _ (by omega),Int.add_mul_emod_self_left];exact⟨by omega,rfl⟩
theorem dr_v0{n B p lz lu s:Nat}{q2 q':Option StkSt}{bz oz bu ou b0 o0 bt ot n3 a iq:Nat}{V Uc Ui Zc Qc:List Int}{w w':World}{X qh R0 lo zv:Int}(K:DrM B lz lu s q2 bz oz bu ou b0 o0 bt ot n3 w q' Uc Zc Qc (List.replicate n3 0) w')(Q:DrQ n B p a V Ui X qh R0)(hlo:val 18446744073709551616 (Uc.take a)=lo)(hR:val 18446744073709551616 (Uc.drop a)=val 18446744073709551616 ((Ui.drop a).take p)+18446744073709551616^p*(val 18446744073709551616 (Ui.drop (a+p))%val 18446744073709551616 (V.drop p)))(hz:val 18446744073709551616 Zc=zv)(hq:val 18446744073709551616 Qc=val 18446744073709551616 (Ui.drop (a+p))/val 18446744073709551616 (V.drop p))(hiq:CutAt Qc iq):
 DrV n B lz lu s q2 bz oz bu ou b0 o0 bt ot n3 w a n3 iq lo R0 zv 0 qh false w':=by
 obtain⟨c1,c2,c3,c4⟩:=cut_facts K.cd hiq;exact⟨q',Uc,Zc,Qc,_,K,hlo,hR.trans Q.re.symm,hz,val_rep _ _,by rw[List.take_replicate,val_rep],c4.trans (hq.trans Q.qe.symm),fun hh=>by cases hh⟩
theorem dr_iq{iq:Nat}{Qc:List Int}{qh:Int}{k:Nat}(hd:DG 18446744073709551616 Qc)(hiq:CutAt Qc iq)(hv:val 18446744073709551616 Qc=qh)(hk:qh<18446744073709551616^k):iq<=k:=by
 obtain⟨c1,c2,c3,c4⟩:=cut_facts hd hiq;rw[<-c1];exact len_le (by omega) c2 c3 (by rw[c4,hv];exact hk)
end Go.Proofs.YthecibbmbnpegaaGreatDoor
end
