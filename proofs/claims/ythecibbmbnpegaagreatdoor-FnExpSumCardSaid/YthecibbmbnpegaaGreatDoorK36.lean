/-
  Part 36 of the proof of the law FnExpSum: XSm, XSn, XLi. Conditions: those of each statement.
-/
import Derived.Test.YthecibbmbnpegaaGreatDoorK35
import Derived.Laws.Bits64
import Derived.Deep.DeepCutAuto
import Derived.Deep.RegionWith
import Derived.Deep.CutBlock
set_option linter.unusedSimpArgs false
set_option linter.unusedVariables false
set_option maxRecDepth 100000
set_option maxHeartbeats 4000000
namespace Go.Big
def cpl(xs:List Int):List Int:=xs.map (fun d=>18446744073709551615-d)
theorem cpl_len(xs:List Int):(cpl xs).length=xs.length:=by simp[cpl]
theorem cpl_val(xs:List Int):val 18446744073709551616 (cpl xs)=18446744073709551616^xs.length-1-val 18446744073709551616 xs:=by
 induction xs with
 |nil=>simp[cpl,val_nil]
 |cons x xs ih=>
  have e:cpl (x::xs)=(18446744073709551615-x)::cpl xs:=rfl;rw[e,val_cons,val_cons,ih,List.length_cons,Int.pow_succ];grind
theorem cpl_step{xs:List Int}{i:Nat}(h:i<xs.length):(cpl (xs.take i)++xs.drop i).set i (18446744073709551615-xs.getD i 0)=cpl (xs.take (i+1))++xs.drop (i+1):=by
 have h1:(cpl (xs.take i)).length=i:=by rw[cpl_len,List.length_take];omega
 rw[List.set_append_right _ _ (by omega),h1,Nat.sub_self,List.drop_eq_getElem_cons h,List.set_cons_zero];have e:xs.take (i+1)=xs.take i++[xs.getD i 0]:=by rw[Go.Big.getD_in h,<- List.take_succ_eq_append_getElem h]
 rw[e];simp[cpl]
theorem cpl_get{xs:List Int}{i:Nat}(h:i<xs.length):(cpl (xs.take i)++xs.drop i).getD i 0=xs.getD i 0:=by
 have h1:(cpl (xs.take i)).length=i:=by rw[cpl_len,List.length_take];omega
 simp only[List.getD_eq_getElem?_getD];rw[List.getElem?_append_right (by omega),h1,Nat.sub_self,List.getElem?_drop,Nat.add_zero]
theorem sub_mod_ge{X Y P:Int}(hP:0<P)(h0:0<=X)(h1:X<P)(hle:Y%P<=X):X-Y%P=(X-Y)%P:=by
 have h2:=Int.emod_nonneg Y (show P≠0 by omega);have e:(X-Y)%P=(X-Y%P)%P:=by rw[Int.sub_emod,Int.sub_emod X (Y%P),Int.emod_emod]
 rw[e,Int.emod_eq_of_lt (a:=X-Y%P) (b:=P) (by omega) (by omega)]
theorem sub_mod_lt{X Y P N D:Int}(hP:0<P)(h0:0<=X)(h1:X<Y%P)(hN:N%P=0)(hD:D=Y%P-X):(N-1-D)%P+1=(X-Y)%P:=by
 have h2:=Int.emod_lt_of_pos Y hP;have e:(X-Y)%P=(X-Y%P)%P:=by rw[Int.sub_emod,Int.sub_emod X (Y%P),Int.emod_emod]
 have e2:(N-1-D)%P=(P-1-D)%P:=by
  have:N-1-D=(P-1-D)+(N/P-1)*P:=by
   have:=Int.emod_add_mul_ediv N P;rw[hN]at this;rw[Int.sub_mul,Int.mul_comm (N/P) P];omega
  rw[this,Int.add_mul_emod_self_right]
 have e3:X-Y%P=(P-D)+ -1*P:=by omega
 rw[e,e2,e3,Int.add_mul_emod_self_right,Int.emod_eq_of_lt (a:=P-1-D) (b:=P) (by omega) (by omega),Int.emod_eq_of_lt (a:=P-D) (b:=P) (by omega) (by omega)];omega
theorem pow_word_mod{n l:Nat}(h:n<=64*l):(18446744073709551616:Int)^l%2^n=0:=by
 have e:(18446744073709551616:Int)^l=2^n*2^(64*l-n):=by
  rw[show(18446744073709551616:Int)=2^64 from rfl,<- Int.pow_mul,<- Int.pow_add];congr 1;omega
 rw[e];exact Int.mul_emod_right _ _
end Go.Big
namespace Go.Proofs.YthecibbmbnpegaaGreatDoor
open Go.Big Go.RowKit
theorem natOneN(w:World):Calls Tryz.prog 92 #[] w fun e w'=> ∃g,e= .returned (.slice (some ⟨g,0,none⟩) 1 1)/\Row .u64 51 w' g [1]/\w.heap.size<=g/\Fr [] w w':=by
 go_enter Tryz.func92,Tryz.ntmps92;go_wp2_with fail;go_ret;exact⟨w.heap.size,rfl,Row.new w .u64 51 [1],Nat.le_refl _,(Fr.refl _ _).alloc _⟩
theorem truncN_any(A:Option Addr)(l b o c:Nat)(Ax:Option Addr)(bx ox cx:Nat)(xs:List Int)(n:Nat)(w:World)(hxn:Nm w Ax bx ox cx xs)(hd:DG 18446744073709551616 xs)(hlen:n<=64*xs.length)(h:Rcv w A b o c)(hl:l<=c)(hx9:xs.length<=100000)(hn0:0<n)(hn:n<=1000000):
 Calls Tryz.prog 96 #[.slice A l c,.slice Ax xs.length cx,.int .u64 (n:Int)] w fun e w'=> ∃A' b' o' c' zs,e= .returned (.slice A' zs.length c')/\PutR w A b o c (val 18446744073709551616 xs%2^n) A' b' o' c' zs w':=by
 have hmx:=hxn.max;have hmc:=h.1;unfold maxLen at hmx hmc;obtain⟨q,hq⟩: ∃q,q=(n+63)/64:=⟨_,rfl⟩;obtain⟨r,hr⟩: ∃r,r=n%64:=⟨_,rfl⟩;have hq1:n<=64*q:=by omega
 have hq2:64*q<n+64:=by omega
 have hkq:((n:Int)+64-1)/64=(q:Int):=by omega
 have hkr:(n:Int)%64=(r:Int):=by omega
 have hr64:r<64:=by omega
 have hq9:q<=20000:=by omega
 have h1: ¬xs.length<q:=by omega
 obtain⟨m,hm1⟩: ∃m,q=m+1:=⟨q-1,by omega⟩;subst hm1;have C:=κ (makeR_any A l b o c (m+1) w h hl (by omega) (by omega));have HX:=κ hxn;have HD:=κ hd;have HR:=κ h;by_cases hr0:r=0
 ·have hn2:n=64*(m+1):=by omega
  have hv:=mod_words (B:=18446744073709551616) (s:=64) (q:=m+1) (by decide) hd (by omega);rw[<-hn2]at hv;rw[hv];subst hr0;clear hxn hd hlen h hr hq hv hn2;have HTL:=κ (show(xs.take (m+1)).length=m+1 by rw[List.length_take];omega);go_enter Tryz.func96,Tryz.ntmps96
  go_wp2_with (first
   |(go_at_call 42;refine(Hid.out C).mono ?_;clear C;intro e w1 hm;obtain⟨b',o',c',Z,rfl,h1,h2,h3,h4,h5,h6,h7⟩:=hm.out (fun hc=>HR.out.lt hc);have H2:=κ h2;have H4:=κ h4;have H5:=κ h5;have H7:=κ h7;have H1:=κ h1;obtain⟨_,L,hL,hLl⟩:=h3;have HL:=κ hL;have HLL:=κ (show o'+(m+1)<=L.length by omega);have hcm:c'<=9223372036854775807:=(by have:=h2.1;unfold maxLen at this;omega);clear hm h2 h4 h5 h6 h7 hL hLl)
   |(refine wp_copy rfl (.tmp 24) (.tmp 25) _ _ rfl .u64 51 Tryz.underlying43 size_wordS b' o' (m+1) c' rfl _ xs rfl (HX.out.fr0 H5.out).sl L HL.out HLL.out ?_;intro w2 row2 f2;have HR2:=κ row2;have HF2:=κ f2;clear row2 f2)
   |(go_at_call 34;have F2:=κ (show Fc 51 (In1 b' o' (m+1)) w1 w2 from fc_row (L':=L) HL.out HR2.out HF2.out (by rw[HTL.out];exact HLL.out) (fun i a1 a2=>⟨rfl,a1,by rw[HTL.out]at a2;exact a2⟩));have CN:=normN_any (some ⟨b',o',none⟩) b' o' c' (xs.take (m+1)) _ (Nm.of_wr (Wr.of_spl HR2.out (by rw[HTL.out];exact HLL.out)) (H2.out.fc F2.out) (by rw[HTL.out];exact h1)) (HD.out.take _);rw[HTL.out]at CN;refine CN.mono ?_;rintro e w5 ⟨⟨us,rfl,g1,g2,g3,g4,g5⟩,rfl⟩;have G1:=κ g1;have G2:=κ g2;have G3:=κ g3;have G4:=κ g4;clear g1 g2 g3 g4 g5 CN));go_ret;refine⟨_,b',o',c',us,rfl,G1.out,G2.out,G3.out,G4.out,H7.out.imp id (fun a=>⟨a.1,by have:=a.2;omega⟩),(Fc.fr0 H5.out _ _).trans F2.out (fun x i hh hlt=> ?_)⟩;rcases H7.out with⟨_,rfl,rfl,rfl⟩|⟨a,_⟩
  ·exact In1.cap hh h1
  ·have:=hh.1;omega
 ·have hn2:n=64*m+r:=by omega
  have hv:=mod_words' (B:=18446744073709551616) (s:=64) (q:=m) (r:=r) (by decide) hd (by omega);rw[<-hn2]at hv
  have hv:val 18446744073709551616 xs%2^n=val 18446744073709551616 (xs.take m++[xs.getD m 0%2^r]):=by
   rcases hv with h|h
   ·exact h
   ·omega
  rw[hv];obtain⟨x,hx⟩: ∃x,x=xs.getD m 0:=⟨_,rfl⟩;rw[<-hx];have hxd:=hd.getD (by omega) m;rw[<-hx]at hxd;obtain⟨hx0,hx1⟩:=hxd;have hmask:=u64_and_mask x r hx0 hx1 hr64;obtain⟨t,ht⟩: ∃t,t=x%2^r:=⟨_,rfl⟩;rw[<-ht]at hmask ⊢
  have ht0:0<=t/\t<18446744073709551616:=by
   have:=Int.emod_nonneg x (show(2:Int)^r≠0 by have:=pow_pos_ (B:=2) (by omega) r;omega);have:=Int.emod_lt_of_pos x (pow_pos_ (B:=2) (by omega) r);have:=pow_le_pow_ (B:=2) (by omega) (show r<=63 by omega);rw[ht];omega
  obtain⟨P,hP⟩: ∃P:Int,P=2^r:=⟨_,rfl⟩
  have hP0:1<=P/\P<=9223372036854775808:=by
   have:=pow_pos_ (B:=2) (by omega) r;have:=pow_le_pow_ (B:=2) (by omega) (show r<=63 by omega);rw[hP];omega
  obtain⟨hP0,hP1⟩:=hP0;rw[<-hP]at hmask;have hpow:(2:Int)^r=P:=hP.symm;have hmin:min r 64=r:=by omega
  have hw1:IntKind.u64.wrap (1*P)=P:=by rw[IntKind.wrap_u64];omega
  have hw2:IntKind.u64.wrap P=P:=by rw[IntKind.wrap_u64];omega
  have hrn:((r:Int)==0)=false:=by rw[beq_eq_false_iff_ne];omega
  have HXX:=κ hx;have HDT:Hid (DG 18446744073709551616 (xs.take m++[t])):=κ ((hd.take m).append (DG.cons ht0.1 ht0.2 (DG.nil _)));have HTL:=κ (show(xs.take (m+1)).length=m+1 by rw[List.length_take];omega);have HSL:=κ (show(xs.take m++[t]).length=m+1 by rw[List.length_append,List.length_take,List.length_singleton];omega);have HTS:=κ (show(xs.take (m+1)).set m t=xs.take m++[t]from take_set_top (by omega));clear hxn hd hlen h hr hq hv hn2 hx ht ht0 hP;go_enter Tryz.func96,Tryz.ntmps96
  go_wp2_with (first
   |(go_at_call 42;refine(Hid.out C).mono ?_;clear C;intro e w1 hm;obtain⟨b',o',c',Z,rfl,h1,h2,h3,h4,h5,h6,h7⟩:=hm.out (fun hc=>HR.out.lt hc);have H2:=κ h2;have H4:=κ h4;have H5:=κ h5;have H7:=κ h7;have H1:=κ h1;obtain⟨_,L,hL,hLl⟩:=h3;have HL:=κ hL;have HLL:=κ (show o'+(m+1)<=L.length by omega);have hcm:c'<=9223372036854775807:=(by have:=h2.1;unfold maxLen at this;omega);clear hm h2 h4 h5 h6 h7 hL hLl)
   |(refine wp_copy rfl (.tmp 24) (.tmp 25) _ _ rfl .u64 51 Tryz.underlying43 size_wordS b' o' (m+1) c' rfl _ xs rfl (HX.out.fr0 H5.out).sl L HL.out HLL.out ?_;intro w2 row2 f2;have F2:=κ (show Fc 51 (In1 b' o' (m+1)) w1 w2 from fc_row (L':=L) HL.out row2 f2 (by rw[HTL.out];exact HLL.out) (fun i a1 a2=>⟨rfl,a1,by rw[HTL.out]at a2;exact a2⟩));have WR2:=κ (Wr.of_spl row2 (by rw[HTL.out];exact HLL.out));have hfz:=WR2.out.frozen (o'+m);have cz:=WR2.out.cell (j:=m) (by rw[HTL.out];omega);rw[show(xs.take (m+1)).getD m 0=x by rw[HXX.out];simp[List.getD_eq_getElem?_getD]]at cz;clear row2 f2)
   |(go_at_call 34;have WR3:=WR2.out.set (j:=m) (by rw[HTL.out];omega) t;rw[HTS.out]at WR3;have F3:=κ (F2.out.t ((Fc.set1 WR2.out (j:=m) (by rw[HTL.out];omega) t).mono (S':=In1 b' o' (m+1)) (fun x i hh _=>⟨hh.1,by have:=hh.2.1;omega,by have:=hh.2.2;omega⟩)));have CN:=normN_any (some ⟨b',o',none⟩) b' o' c' (xs.take m++[t]) _ (Nm.of_wr WR3 (H2.out.fc F3.out) (by rw[HSL.out];exact h1)) HDT.out;rw[HSL.out]at CN;refine CN.mono ?_;rintro e w5 ⟨⟨us,rfl,g1,g2,g3,g4,g5⟩,rfl⟩;have G1:=κ g1;have G2:=κ g2;have G3:=κ g3;have G4:=κ g4;clear g1 g2 g3 g4 g5 CN WR3));go_ret;refine⟨_,b',o',c',us,rfl,G1.out,G2.out,G3.out,G4.out,H7.out.imp id (fun a=>⟨a.1,by have:=a.2;omega⟩),(Fc.fr0 H5.out _ _).trans F3.out (fun x i hh hlt=> ?_)⟩;rcases H7.out with⟨_,rfl,rfl,rfl⟩|⟨a,_⟩
  ·exact In1.cap hh h1
  ·have:=hh.1;omega
section
variable {s:Nat}{w0 w w':World}{q0 q q':Option StkSt}{W W' R R':List Pn}{z z' x y:Pn}{V:Int}{e:Ending}
theorem Bv.subl(h:Bv s w0 q0 w q W' R)(hs:W.Sublist W'):Bv s w0 q0 w q W R:=
 ⟨h.lv.sub (hs.append_right R) (fun p hp=>hs.subset hp),fun p hp=>h.nb p (hs.subset hp),h.bd.sublist hs,fun p hp=>h.br p (hs.subset hp)⟩
theorem Bv.app(h:Bv s w0 q0 w q (z::W) R){v:Int}{v':Value}(h0:0<=v)(h1:v<18446744073709551616)(ha:AppP w z.A z.b z.o z.c (z.xs++[v]) v' w'): ∃z',v'=z'.v/\z'.xs=z.xs++[v]/\Bv s w0 q0 w' q (z'::W) R:=by
 obtain⟨A',b',o',c',rfl,hn,hp,hf⟩:=ha;have hzo:=h.lv.ok z (by simp);have hm:=hn.max;unfold maxLen at hm
 have hst:StkAt w' s q:=h.lv.st.fc hf (fun i hh=>by
  by_cases hc:0<z.c
  ·exact(hzo.bs h.lv.st hc).1 hh.1.symm
  ·exact In1.nil hc hh) (fun p hp i hh=>by
  by_cases hc:0<z.c
  ·exact(hzo.bs h.lv.st hc).2 p hp hh.1.symm
  ·exact In1.nil hc hh)
 have hok:PnOk s q w' ⟨A',b',o',c',z.xs++[v]⟩:=⟨hn,hzo.dg.append (DG.cons h0 h1 (DG.nil _)),by simp only;omega,by
  rcases hp with⟨_,rfl,rfl,rfl⟩|hp
  ·exact hzo.off
  ·exact(NewS.of h.lv.st hp).off⟩;have hpl:(b'=z.b/\o'=z.o/\c'=z.c)\/w.heap.size<=b':=hp.imp (fun a=>a.2) id;exact⟨⟨A',b',o',c',z.xs++[v]⟩,rfl,rfl,h.put (h.lv.put hok hst (StkLe.refl _ _) rfl (hf.mono (fun b i hh _=> .inr hh)) hpl) (StkLe.refl _ _) (.inr (hpl.imp id (fun a=>⟨a,NewS.of h.lv.st a⟩)))⟩
theorem Bv.word(h:Bv s w0 q0 w q (z::W) R){i:Nat}{v:Int}(hi:i<z.xs.length)(h0:0<=v)(h1:v<18446744073709551616):Bv s w0 q0 (w.setCell ⟨z.b,z.o+i,none⟩ (.int .u64 v)) q (⟨z.A,z.b,z.o,z.c,z.xs.set i v⟩::W) R:=by
 have hzo:=h.lv.ok z (by simp);have hle:=hzo.nm.le;have hw:=hzo.nm.wr (by omega);have hf:=(Fc.set1 hw hi v).mono (S':=In1 z.b z.o z.c) (fun b k hh _=>⟨hh.1,by have:=hh.2.1;omega,by have:=hh.2.2;omega⟩);have hs:=hw.set hi v;have hc:0<z.c:=by omega
 have hst:StkAt (w.setCell ⟨z.b,z.o+i,none⟩ (.int .u64 v)) s q:=h.lv.st.fc hf (fun i hh=>(hzo.bs h.lv.st hc).1 hh.1.symm) (fun p hp i hh=>(hzo.bs h.lv.st hc).2 p hp hh.1.symm)
 have hok:PnOk s q (w.setCell ⟨z.b,z.o+i,none⟩ (.int .u64 v)) ⟨z.A,z.b,z.o,z.c,z.xs.set i v⟩:=⟨Nm.of_wr hs (hzo.nm.rcv.fc hf) (by simpa using hle),fun d hd=>by
  rcases List.mem_or_eq_of_mem_set hd with hd|rfl
  ·exact hzo.dg d hd
  ·exact⟨h0,h1⟩,hzo.c9,hzo.off⟩;exact h.put (h.lv.put hok hst (StkLe.refl _ _) rfl (hf.mono (fun b i hh _=> .inr hh)) (.inl ⟨rfl,rfl,rfl⟩)) (StkLe.refl _ _) (.inr (.inl ⟨rfl,rfl,rfl⟩))
theorem truncBN(h:Bv s w0 q0 w q (z::W) R)(h9:z.xs.length<=100000){n:Nat}(hn0:0<n)(hn:n<=1000000)(hl:n<=64*z.xs.length):Calls Tryz.prog 96 #[z.v,z.v,.int .u64 (n:Int)] w (PutB s w0 q0 q W R (z.n%2^n)):=by
 have hz:=h.lv.ok z (by simp);refine(truncN_any z.A z.xs.length z.b z.o z.c z.A z.b z.o z.c z.xs n w hz.nm hz.dg hl hz.nm.rcv hz.nm.le h9 hn0 hn).mono ?_;rintro e w' ⟨A',b',o',c',zs,rfl,hp⟩;exact h.putL (PutR.put h.lv hp)
theorem Bv.one(h:Bv s w0 q0 w q W R){g:Nat}(f:Fr [] w w')(hb:w.heap.size<=g)(hr:Row .u64 51 w' g [1]):Bv s w0 q0 w' q (⟨some ⟨g,0,none⟩,g,0,1,[1]⟩::W) R:=
 h.add f (pn_new (xs:=[1]) h.lv.st f hb hr rfl (by simp) (by simp) (by unfold maxLen;omega) (DG.cons (by omega) (by omega) (DG.nil _))) hb
theorem Bv.alias(h:Bv s w0 q0 w q (z::W) R)(hy:y∈W++R):Calls Tryz.prog 37 #[z.v,y.v] w fun e w'=>e= .returned (.bool false)/\Fr [] w w':=by
 have oz:=h.lv.ok z (by simp);have oy:=h.lv.ok y (by simp only[List.cons_append,List.mem_cons];exact .inr hy);by_cases hc:0<z.c
 ·by_cases hd:0<y.c
  ·obtain⟨X,hX,_⟩:=oz.nm.rcv.row hc
   obtain⟨Y,hY,_⟩:=oy.nm.rcv.row hd
   have hb:BDj z y:=by
    rcases List.mem_append.1 hy with hy|hy
    ·have:=h.bd;rw[List.pairwise_cons]at this;exact this.1 y hy
    ·exact h.br z (by simp) y hy
   unfold Pn.v;rw[oz.nm.rcv.addr hc,oy.nm.rcv.addr hd];exact alias_no z.b z.o z.xs.length z.c y.b y.o y.xs.length y.c w X Y hX hY oz.nm.le oy.nm.le oz.nm.max oy.nm.max hc hd (.inl (by unfold BDj at hb;omega))
  ·exact alias_no0 _ _ _ _ _ _ w (.inr (by omega)) oz.nm.max oy.nm.max
 ·exact alias_no0 _ _ _ _ _ _ w (.inl (by omega)) oz.nm.max oy.nm.max
end
end Go.Proofs.YthecibbmbnpegaaGreatDoor
namespace Go.Proofs.YthecibbmbnpegaaGreatDoor
open Go.Big Go.RowKit
attribute [local go_sem ↓] Go.wp_at_zero Go.wp_at_succ
section
variable {s:Nat}{w0 w w':World}{q0 q q':Option StkSt}{W W' R R':List Pn}{z z' x y:Pn}{V:Int}{e:Ending}
theorem isLen_le{X:Int}{L n:Nat}(h:IsLen X L)(hX:X<2^n):L<=n:=by
 rcases h with⟨_,rfl⟩|⟨h1,h2,h3⟩
 ·exact Nat.zero_le _
 ·rcases Nat.lt_or_ge n L with h|h
  ·have:=pow_le_pow_ (B:=2) (by omega) (show n<=L-1 by omega)
   omega
  ·exact h
theorem isLen_gt{X:Int}{L n:Nat}(h:IsLen X L)(hL:L<=n):X<2^n:=by
 have hP:=pow_pos_ (B:=2) (by omega) n;rcases h with⟨h0,rfl⟩|⟨h1,h2,h3⟩
 ·omega
 ·have:=pow_le_pow_ (B:=2) (by omega) hL
  omega
def SmC(s:Nat)(w0:World)(q0:Option StkSt)(q:Option StkSt)(W R:List Pn)(x:Pn)(V:Int)(v:Value)(wx:World):Prop:=
 ∃(y:Pn) (W':List Pn) (q1:Option StkSt),v= .slice y.A y.xs.length y.c/\Bv s w0 q0 wx q1 (x::W') R/\y∈W'++R/\NZ y.xs/\y.n=V/\y.xs.length<=600/\W.Sublist W'/\lenS q1=lenS q
theorem sm_len{V:Int}{n:Nat}{W R:List Pn}(h:Bv s w0 q0 w q (z::W) R)(nz:NZ z.xs)(hv:z.n=V%2^n)(hn:n<=30000):z.xs.length<=100000:=by
 refine Nat.le_trans (len_le (k:=500) (by omega) (h.lv.ok z (by simp)).dg nz ?_) (by omega);have h1:z.n<2^n:=by rw[hv];exact Int.emod_lt_of_pos _ (pow_pos_ (by omega) n)
 have h2:=pow_le_pow_ (B:=2) (by omega) (show n<=64*500 by omega);have e:(18446744073709551616:Int)^500=2^(64*500):=by rw[show(18446744073709551616:Int)=2^64 from rfl,<- Int.pow_mul]
 rw[e];unfold Pn.n at h1;generalize(2:Int)^(64*500)=P at*;omega
def SmL(s:Nat)(w0:World)(q0 q:Option StkSt)(W R:List Pn)(D:Int)(K g:Nat)(v0:Value)(wx:World):Prop:=
 ∃z:Pn,v0= .slice z.A z.xs.length z.c/\Bv s w0 q0 wx q (z::W) R/\z.n=D/\z.xs.length<=600/\0<z.xs.length/\g=K-z.xs.length
def SmX(s:Nat)(w0:World)(q0 q:Option StkSt)(W R:List Pn)(z:Pn)(g:Nat)(_v9 v63:Value)(wx:World):Prop:=
 ∃i:Nat,v63= .int .i64 (i:Int)/\i<=z.xs.length/\g=z.xs.length-i/\Bv s w0 q0 wx q (⟨z.A,z.b,z.o,z.c,cpl (z.xs.take i)++z.xs.drop i⟩::W) R
theorem subMod_any(h:Bv s w0 q0 w q (x::W) R)(hy:y∈W++R)(nx:NZ x.xs)(ny:NZ y.xs)(hx9:x.xs.length<=500)(hy9:y.xs.length<=500)(hxB:x.n<BIG)(hyB:y.n<BIG){n:Nat}(hn0:0<n)(hn9:n<=30000)(hxn:x.n<2^n):
 Calls Tryz.prog 99 #[.slice x.A x.xs.length x.c,.slice x.A x.xs.length x.c,.slice y.A y.xs.length y.c,.int .u64 (n:Int)] w (PutB s w0 q0 q W R ((x.n-y.n)%2^n)):=by
 have ox:=h.lv.ok x (by simp);have hy':y∈(x::W)++R:=by simp only[List.cons_append,List.mem_cons];exact .inr hy
 have oy:=h.lv.ok y hy';have CX:=κ (bitLen_any (.slice x.A x.xs.length x.c) x.n w (ox.nm.sw ox.dg nx) hxB);have CY:=κ (bitLen_any (.slice y.A y.xs.length y.c) y.n w (oy.nm.sw oy.dg ny) hyB);have HB:=κ h;have HY:=κ hy;have NX:=κ nx;have NY:=κ ny;have HXN:=κ hxn;have T1:True:=trivial;clear h hy nx ny hxB hyB hxn hy';go_enter Tryz.func99,Tryz.ntmps99;go_upto_if 14 with(go_at_call 129;refine(CX.out).mono ?_;rintro e w1 ⟨L,rfl,hL,hL9,rfl⟩;have hLn:=isLen_le hL HXN.out;clear hL);have wL:IntKind.u64.wrap (L:Int)=(L:Int):=by rw[IntKind.wrap_u64];omega
 have hd:decide (n<L)=false:=decide_eq_false (by omega);simp only[hd];clear hd wL hLn hL9;go_upto_if 29 with(go_at_call 129;refine(CY.out).mono ?_;rintro e w2 ⟨L2,rfl,hL,hL9,rfl⟩;have HL2:=κ hL;clear hL);have wL:IntKind.u64.wrap (L2:Int)=(L2:Int):=by rw[IntKind.wrap_u64];omega
 go_cut [2]from 29 to 39 (fun v wx=>SmC s w0 q0 q W R x (y.n%2^n) v wx)
 case first=>
  by_cases hlt:n<L2
  ·have hd:decide (n<L2)=true:=decide_eq_true hlt
   simp only[hd];have CA:=κ (HB.out.alias HY.out);have CT:=κ (fun(W1:World) (f:Fr [] w W1)=>truncB (z:=nilP W1.heap.size) (l:=0) (HB.out.fr0 f).nil (x:=y) (List.mem_cons_of_mem _ (by simp only[List.cons_append,List.mem_cons];exact .inr HY.out)) NY.out (by omega) hn0 (by omega) (Nat.zero_le _));clear hd hlt wL hL9
   go_wp2_with (first
    |(go_at_call 37;refine(CA.out).mono ?_;rintro e w3 ⟨rfl,f3⟩;have F3:=κ f3;clear f3)
    |(go_at_call 96;refine(CT.out _ F3.out).mono ?_;rintro e w4 ⟨z',q',rfl,hB4,nz4,v4,l4⟩;have B4:=κ hB4;have N4:=κ nz4;have V4:=κ v4;have L4:=κ l4;clear hB4 nz4 v4 l4));go_meet;have hyd:=(HB.out.lv.ok y (by simp only[List.cons_append,List.mem_cons];exact .inr HY.out)).dg
   have hle:val 18446744073709551616 z'.xs<=val 18446744073709551616 y.xs:=by
    have h1:z'.n=y.n%2^n:=V4.out;have h2:=Int.emod_add_mul_ediv y.n (2^n);have h3:0<=2^n*(y.n/2^n):=Int.mul_nonneg (Int.le_of_lt (pow_pos_ (by omega) n)) (Int.ediv_nonneg (val_nonneg (by omega) hyd) (Int.le_of_lt (pow_pos_ (by omega) n)));unfold Pn.n at h1 h2 h3;omega
   have hl:=len_sm (B4.out.lv.ok z' (by simp)).dg hyd N4.out hle;exact⟨z',z'::W,q',rfl,B4.out.perm (List.Perm.swap x z' W),by simp,N4.out,V4.out,by omega,List.sublist_cons_self _ _,L4.out⟩
  ·have hd:decide (n<L2)=false:=decide_eq_false hlt
   simp only[hd];have hv:y.n%2^n=y.n:=Int.emod_eq_of_lt (val_nonneg (by omega) (HB.out.lv.ok y (by simp only[List.cons_append,List.mem_cons];exact .inr HY.out)).dg) (isLen_gt HL2.out (by omega));have HV:=κ hv;clear hd hlt wL hL9 hv;go_wp2_with fail;go_meet;exact⟨y,W,q,rfl,HB.out,HY.out,NY.out,HV.out.symm,by omega,List.Sublist.refl _,rfl⟩
 case rest=>
  obtain⟨y',W',q1,rfl,hB1,hy1,ny1,v1,hy9',hsub,hlq⟩:=hcut;obtain⟨w2,hw2⟩: ∃w2,w2=wc:=⟨_,rfl⟩;subst hw2;have HB1:=κ hB1;have HY1:=κ hy1;have NY1:=κ ny1;have V1:=κ v1;have HSUB:=κ hsub;have HLQ:=κ hlq;have ox:=hB1.lv.ok x (by simp);have hym:y'∈x::(W'++R):=List.mem_cons_of_mem _ hy1;have oy:=hB1.lv.ok y' hym;have HYM:=κ hym;obtain⟨c,hc⟩: ∃c,c=cmpI x.n y'.n:=⟨_,rfl⟩;have HCC:=κ hc;have CC:=κ (bcmp_any (.slice x.A x.xs.length x.c) (.slice y'.A y'.xs.length y'.c) x.n y'.n w2 (ox.nm.sw ox.dg NX.out) (oy.nm.sw oy.dg ny1));rw[<-hc]at CC;have HX0:=κ (show 0<=x.n from val_nonneg (by omega) ox.dg);have HP:=κ (pow_pos_ (B:=2) (by omega) n);clear hB1 hy1 ny1 v1 hsub hlq ox oy hym hc wL;go_upto_if 43 with(go_at_call 47;refine(CC.out).mono ?_;rintro e w3 ⟨rfl,f3⟩;have B3:=κ (HB1.out.fr0 f3);clear f3);by_cases hle:y'.n<=x.n
  ·have hc0:0<=c:=by rw[HCC.out];exact cmpI_ge hle
   have hd:decide (0<=c)=true:=decide_eq_true hc0;try simp only[hd]
   have CS:=κ (subB (l:=x.xs.length) B3.out (x:=x) (y:=y') (by simp) HYM.out NX.out NY1.out (by omega) hle (B3.out.lv.ok x (by simp)).nm.le);have HLE:=κ hle;clear CC hd hle;go_wp2_with (go_at_call 40;refine(CS.out).mono ?_;rintro e w4 ⟨z',q',rfl,hB4,nz4,v4,l4⟩;have B4:=κ hB4;have N4:=κ nz4;have V4:=κ v4;have L4:=κ l4;clear hB4 nz4 v4 l4);first|go_ret2|go_ret
   refine⟨z',q',rfl,B4.out.subl (HSUB.out.cons_cons _),N4.out,?_,L4.out.trans HLQ.out⟩;have h1:=HLE.out;rw[V1.out]at h1;rw[V4.out,V1.out];exact sub_mod_ge HP.out HX0.out HXN.out h1
  ·have hc0: ¬0<=c:=by have:=cmpI_neg (n:=x.n) (m:=y'.n) (by omega);rw[HCC.out];omega
   have hd:decide (0<=c)=false:=decide_eq_false hc0;try simp only[hd]
   have CS:=κ (subB (l:=x.xs.length) B3.out (x:=y') (y:=x) HYM.out (by simp) NY1.out NX.out (by omega) (by omega) (B3.out.lv.ok x (by simp)).nm.le);have HLT:=κ (show x.n<y'.n by omega);clear CC hd hle;go_upto_region 12 with(go_at_call 40;refine(CS.out).mono ?_;rintro e w4 ⟨z',q',rfl,hB4,nz4,v4,l4⟩;have B4:=κ hB4;have N4:=κ nz4;have V4:=κ v4;have L4:=κ l4;clear hB4 nz4 v4 l4);have H4:=B4.out.lv.ok z' (by simp)
   have hzl:z'.xs.length<=600:=by
    have h1:z'.n=y'.n-x.n:=V4.out;have h2:=HX0.out;have:=len_sm H4.dg (B3.out.lv.ok y' HYM.out).dg N4.out (by unfold Pn.n at *;omega);omega
   have hz0:0<z'.xs.length:=by
    rcases Nat.eq_zero_or_pos z'.xs.length with h0|h0
    ·have h1:z'.n=y'.n-x.n:=V4.out
     have h2:=HLT.out;unfold Pn.n at h1;rw[List.eq_nil_of_length_eq_zero h0,val_nil]at h1;unfold Pn.n at h2;omega
    ·exact h0
   clear H4 CS;go_loopg [0] ((n+63)/64-z'.xs.length) (SmL s w0 q0 q' W' R z'.n ((n+63)/64));case atStart=>exact⟨z',rfl,B4.out,rfl,hzl,hz0,rfl⟩
   case round=>
    obtain⟨z,rfl,hB,hv,hl6,hl0,rfl⟩:=hrel;have HB5:=κ hB;have HV5:=κ hv;have hzc9:=(hB.lv.ok z (by simp)).c9;have hznc:=(hB.lv.ok z (by simp)).nm.le;obtain⟨l64,hl64⟩: ∃l,l=z.xs.length*64:=⟨_,rfl⟩;have hw1:IntKind.u64.wrap ((z.xs.length:Int)*64)=(l64:Int):=by rw[IntKind.wrap_u64];omega
    have hw2:IntKind.u64.wrap (z.xs.length:Int)=(z.xs.length:Int):=by rw[IntKind.wrap_u64];omega
    have HL64:=κ hl64;clear hB hv hl64 hzl hz0;by_cases hlt:l64<n
    ·have hI:(l64:Int)<(n:Int):=by omega
     have HN5:=κ (HB5.out.lv.ok z (by simp)).nm;go_wp2_with (refine wp_appR rfl (.tmp 58) (.tmp 59) rfl HN5.out hl0 (by omega) 0 rfl rfl ?_;intro v6 w6 ha;have HA:=κ ha;clear ha);obtain⟨z6,rfl,e6,hB6⟩:=HB5.out.app (by omega) (by omega) HA.out;have hl6':z6.xs.length=z.xs.length+1:=by rw[e6];simp
     have HV6:=κ (show z6.n=z'.n by
      have h1:=HV5.out;unfold Pn.n at h1 ⊢
      rw[e6,val_snoc,Int.mul_zero,Int.add_zero,h1]);go_roundg ((n+63)/64-z6.xs.length);case measure=>have:=HL64.out;omega
     case rel=>exact⟨z6,rfl,hB6,HV6.out,by have:=HL64.out;omega,by omega,rfl⟩
    ·have hI: ¬(l64:Int)<(n:Int):=by omega
     have hlong:=κ (show n<=64*z.xs.length by have:=HL64.out;omega);have eA:z.A=some ⟨z.b,z.o,none⟩:=(HB5.out.lv.ok z (by simp)).nm.addr hl0;have HEA:=κ eA;have HL0:=κ hl0;have HL6:=κ hl6;rw[eA];clear eA hlt;go_wp2_with fail;go_loopg [9,63] z.xs.length (SmX s w0 q0 q' W' R z);case atStart=>exact⟨0,rfl,Nat.zero_le _,rfl,by simpa[cpl]using HB5.out⟩
     case round=>
      obtain⟨i,rfl,hi,rfl,hB⟩:=hrel;have HB7:=κ hB;have H7:=hB.lv.ok ⟨z.A,z.b,z.o,z.c,cpl (z.xs.take i)++z.xs.drop i⟩ (by simp);have hlen7:(cpl (z.xs.take i)++z.xs.drop i).length=z.xs.length:=by rw[List.length_append,cpl_len,List.length_take,List.length_drop];omega
      have HLEN:=κ hlen7;by_cases hiz:i<z.xs.length
      ·have hI2:(i:Int)<(z.xs.length:Int):=by omega
       obtain⟨d,hd⟩: ∃d,d=z.xs.getD i 0:=⟨_,rfl⟩
       have c7:wr.cell? ⟨z.b,z.o+i,none⟩=some (.int .u64 d):=by
        have:=H7.nm.2.2 (by simp only;omega) i (by simp only;omega);rw[this];simp only;rw[cpl_get hiz,hd]
       have f7:wr.frozen? ⟨z.b,z.o+i,none⟩=false:=(H7.nm.wr (by simp only;omega)).frozen _;have hdd:=(HB5.out.lv.ok z (by simp)).dg.getD (by omega) i;rw[<-hd]at hdd;have hnot:=word_not d hdd.1 hdd.2;have HD:=κ hd;have HDD:=κ hdd;clear hB H7 hlen7 hd hdd;go_wp2_with fail;go_roundg (z.xs.length-(i+1));case measure=>omega
       case rel=>
        refine⟨i+1,rfl,by omega,rfl,?_⟩;have h:=HB7.out.word (i:=i) (v:=18446744073709551615-d) (by simp only;rw[HLEN.out];exact hiz) (by have:=HDD.out;omega) (by have:=HDD.out;omega);simp only at h;rw[HD.out,cpl_step hiz]at h;rw[HD.out];exact h
      ·have hI2: ¬(i:Int)<(z.xs.length:Int):=by omega
       have hiL:i=z.xs.length:=by omega
       have hB8:Bv s w0 q0 wr q' (⟨z.A,z.b,z.o,z.c,cpl z.xs⟩::W') R:=by
        have:=HB7.out;rwa[hiL,List.take_length,List.drop_length,List.append_nil]at this
       have CT:=truncBN hB8 (by simp only;rw[cpl_len];have:=HL6.out;omega) hn0 (by omega) (by simp only;rw[cpl_len];exact hlong.out);unfold Pn.v at CT;simp only[cpl_len]at CT;rw[HEA.out]at CT;have HCT:=κ CT;have T2:True:=trivial;clear hB H7 hlen7 hiL CT hB8 hi hiz
       go_wp2_with (first
        |(go_at_call 96;refine(HCT.out).mono ?_;rintro e w8 ⟨z8,q8,rfl,hB8,nz8,v8,l8⟩;have B8:=κ hB8;have N8:=κ nz8;have V8:=κ v8;have L8:=κ l8;clear hB8 nz8 v8 l8)
        |(go_at_call 92;refine(natOneN w8).mono ?_;rintro e w9 ⟨g9,rfl,row9,hg9,f9⟩;have B9:=κ ((B8.out.one f9 hg9 row9).perm (List.Perm.swap z8 _ W'));clear row9 hg9 f9)
        |(go_at_call 27;refine(addB (l:=z8.xs.length) B9.out (x:=z8) (y:=⟨some ⟨g9,0,none⟩,g9,0,1,[1]⟩) (by simp) (by simp) N8.out (.inr (by simp)) (sm_len B8.out N8.out V8.out hn9) (by simp) (B9.out.lv.ok z8 (by simp)).nm.le).mono ?_;rintro e wx ⟨zx,qx,rfl,hBx,nzx,vx,lx⟩;have BX:=κ hBx;have NX':=κ nzx;have VX:=κ vx;have LX:=κ lx;clear hBx nzx vx lx));first|go_ret2|go_ret
       refine⟨zx,qx,rfl,BX.out.subl ((HSUB.out.cons _).cons_cons _),NX'.out,?_,((LX.out.trans L8.out).trans L4.out).trans HLQ.out⟩;have h1:zx.n=z8.n+val 18446744073709551616 [1]:=VX.out;have h2:z8.n=val 18446744073709551616 (cpl z.xs)%2^n:=V8.out;have h3:z.n=z'.n:=HV5.out;have h4:z'.n=y'.n-x.n:=V4.out;have h5:=HLT.out;rw[V1.out]at h4 h5;have h6:val 18446744073709551616 [1]=1:=by rw[val_cons,val_nil];omega
       rw[h1,h2,h6,cpl_val];exact sub_mod_lt HP.out HX0.out h5 (pow_word_mod hlong.out) (by show z.n=_;rw[h3,h4])
end
end Go.Proofs.YthecibbmbnpegaaGreatDoor
namespace Go.Proofs.YthecibbmbnpegaaGreatDoor
open Go.Big Go.RowKit
structure In where
 p:Nat
 ng:Bool
 A:Option Addr
 b:Nat
 o:Nat
 c:Nat
 xs:List Int
def In.v(x:In):Int:=sg x.ng (val 18446744073709551616 x.xs)
def In.pt(x:In):Value:= .pointer (some ⟨x.p,0,none⟩)
structure InOk(w:World)(x:In):Prop where
 ib:IntB w x.p x.ng x.A x.xs.length x.c
 nm:Nm w x.A x.b x.o x.c x.xs
 dg:DG 18446744073709551616 x.xs
 nz:NZ x.xs
def InDj(x y:In):Prop:=x.p≠y.p/\(x.c=0\/y.c=0\/x.b≠y.b)
theorem InDj.symm{x y:In}(h:InDj x y):InDj y x:=⟨h.1.symm,by have:=h.2;omega⟩
structure Li(w0 w:World)(W:List In):Prop where
 fr:Fr [] w0 w
 ok: ∀x,x∈W->InOk w x
 nw: ∀x,x∈W->w0.heap.size<=x.p/\(x.c=0\/w0.heap.size<=x.b)
 dj:W.Pairwise InDj
section
variable {w0 w w':World}{W W' Z Z':List In}{x y z z':In}{V:Int}
theorem Li.perm(h:Li w0 w W)(p:W.Perm W'):Li w0 w W':=⟨h.fr,fun x hx=>h.ok x ((p.mem_iff).2 hx),fun x hx=>h.nw x ((p.mem_iff).2 hx),(p.pairwise_iff (fun h=>InDj.symm h)).1 h.dj⟩
theorem Li.sub(h:Li w0 w W)(hs:W'.Sublist W):Li w0 w W':=⟨h.fr,fun x hx=>h.ok x (hs.subset hx),fun x hx=>h.nw x (hs.subset hx),h.dj.sublist hs⟩
theorem InOk.fr0(h:InOk w x)(f:Fr [] w w'):InOk w' x:=⟨h.ib.fr0 f,h.nm.fr0 f,h.dg,h.nz⟩
theorem Li.fr0(h:Li w0 w W)(f:Fr [] w w'):Li w0 w' W:=⟨h.fr.t f,fun x hx=>(h.ok x hx).fr0 f,h.nw,h.dj⟩
theorem InOk.blt(h:InOk w x)(hc:0<x.c):x.b<w.heap.size:=h.nm.rcv.lt hc
theorem InOk.c9(h:InOk w x):x.c<=9223372036854775807:=by have:=h.nm.max;unfold maxLen at this;exact this
theorem InOk.pb(hx:InOk w x)(hy:InOk w y)(hc:0<y.c):x.p≠y.b:=fun e=>hx.ib.rcv_ne hy.nm.rcv hc e.symm
def LiS(Z:List In)(b:Nat):Prop:= ∃z,z∈Z/\(b=z.p\/(0<z.c/\b=z.b))
theorem Li.putN(h:Li w0 w (Z++W))(hf:Fc 51 (fun b _=>LiS Z b) w w')
 (hz: ∀z',z'∈Z'->InOk w' z'/\ ∃z,z∈Z/\z'.p=z.p/\(z'.c=0\/(z'.b=z.b/\z'.c=z.c)\/w.heap.size<=z'.b))(hd:Z'.Pairwise InDj):Li w0 w' (Z'++W):=by
 have hsz:=h.fr.size;have hdj:=h.dj;rw[List.pairwise_append]at hdj
 have keep: ∀x,x∈W->InOk w' x:=fun x hx=>by
  have ho:=h.ok x (List.mem_append_right _ hx)
  have hoff: ∀b,(b=x.p\/(0<x.c/\b=x.b))-> ¬LiS Z b:=by
   rintro b hb ⟨z,hz,hh⟩;have hzo:=h.ok z (List.mem_append_left _ hz);have hd:=hdj.2.2 z hz x hx;rcases hb with rfl|⟨hc,rfl⟩<;>rcases hh with hh|⟨hc',hh⟩
   ·exact hd.1 hh.symm
   ·exact ho.pb hzo hc' hh
   ·exact hzo.pb ho hc hh.symm
   ·have:=hd.2;omega
  exact⟨ho.ib.fc hf (fun i=>hoff x.p (.inl rfl)),ho.nm.fc hf (fun i a1 a2=>hoff x.b (.inr ⟨by have:=ho.nm.le;omega,rfl⟩)),ho.dg,ho.nz⟩
 refine⟨Fc.fr_new' hf h.fr (fun b i hh=> ?_),fun x hx=> ?_,fun x hx=> ?_,?_⟩
 ·obtain⟨z,hz,hh⟩:=hh
  have hn:=h.nw z (List.mem_append_left _ hz);rcases hh with rfl|⟨hc,rfl⟩
  ·exact hn.1
  ·exact hn.2.resolve_left (by omega)
 ·rw[List.mem_append]at hx
  exact hx.elim (fun hx=>(hz x hx).1) (keep x)
 ·rw[List.mem_append]at hx
  rcases hx with hx|hx
  ·obtain⟨_,z,hzz,e1,e2⟩:=hz x hx
   have hn:=h.nw z (List.mem_append_left _ hzz);refine⟨by rw[e1];exact hn.1,?_⟩;rcases e2 with e2|⟨e2,e3⟩|e2
   ·exact .inl e2
   ·rw[e2,e3];exact hn.2
   ·exact .inr (by omega)
  ·exact h.nw x (List.mem_append_right _ hx)
 ·rw[List.pairwise_append]
  refine⟨hd,hdj.2.1,fun z' hz' x hx=> ?_⟩;obtain⟨_,z,hzz,e1,e2⟩:=hz z' hz';have hdx:=hdj.2.2 z hzz x hx;refine⟨by rw[e1];exact hdx.1,?_⟩;rcases e2 with e2|⟨e2,e3⟩|e2
  ·exact .inl e2
  ·rw[e2,e3];exact hdx.2
  ·by_cases hc:x.c=0
   ·exact .inr (.inl hc)
   ·have:=(h.ok x (List.mem_append_right _ hx)).blt (by omega)
    exact .inr (.inr (by omega))
theorem Li.put(h:Li w0 w (z::W))(hf:Fc 51 (fun b _=>b=z.p\/(0<z.c/\b=z.b)) w w')(hz:InOk w' z')(hp:z'.p=z.p)(hb:z'.c=0\/(z'.b=z.b/\z'.c=z.c)\/w.heap.size<=z'.b):Li w0 w' (z'::W):=
 Li.putN (Z:=[z]) (Z':=[z']) h (hf.mono (fun b i hh _=>⟨z,by simp,hh⟩)) (fun x hx=>by
  rw[List.mem_singleton]at hx;subst hx;exact⟨hz,z,by simp,hp,hb⟩) (List.pairwise_singleton _ _)
def PutI(w0:World)(W:List In)(z:In)(V:Int)(w':World):Prop:= ∃z',z'.p=z.p/\z'.v=V/\Li w0 w' (z'::W)
theorem InOk.rcv(h:InOk w z): ∃b,(0<z.c->b=z.b)/\(z.c=0->b=w.heap.size)/\Rcv w z.A b z.o z.c:=by
 by_cases hc:0<z.c
 ·exact⟨z.b,fun _=>rfl,fun h0=>by omega,h.nm.rcv⟩
 ·exact⟨w.heap.size,fun h0=>absurd h0 hc,fun _=>rfl,h.nm.max,.inl (by omega)⟩
theorem Li.al(h:Li w0 w (z::W))(hx:x∈z::W){b k:Nat}(hb:0<z.c->b=z.b)(hb0:z.c=0->b=w.heap.size):0<x.xs.length->Al b z.o k x.b x.o x.xs.length:=fun hl=>by
 have ho:=h.ok x hx;have hxc:0<x.c:=by have:=ho.nm.le;omega
 rcases List.mem_cons.1 hx with rfl|hm
 ·exact .inr ⟨(hb hxc).symm,rfl⟩
 ·refine .inl (.inl ?_)
  have hd:=h.dj;rw[List.pairwise_cons]at hd;have h1:=(hd.1 x hm).2;have h2:=ho.blt hxc;by_cases hc:0<z.c
  ·rw[hb hc];omega
  ·rw[hb0 (by omega)];omega
theorem Li.pne(h:Li w0 w (z::W))(hx:x∈z::W){b:Nat}(hb:0<z.c->b=z.b)(hb0:z.c=0->b=w.heap.size):x.p≠b:=by
 have ho:=h.ok x hx;have hz:=h.ok z (by simp);by_cases hc:0<z.c
 ·rw[hb hc];exact ho.pb hz hc
 ·rw[hb0 (by omega)];have:=ho.ib.lt;omega
end
end Go.Proofs.YthecibbmbnpegaaGreatDoor
