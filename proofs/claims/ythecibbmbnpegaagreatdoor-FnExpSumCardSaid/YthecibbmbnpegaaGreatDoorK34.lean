/-
  Part 34 of the proof of the law FnExpSum: XEs. Conditions: those of each statement.
-/
import Derived.Test.YthecibbmbnpegaaGreatDoorK30
import Derived.Test.YthecibbmbnpegaaGreatDoorK32
import Derived.Test.YthecibbmbnpegaaGreatDoorK33
import Derived.Laws.Bits64
import Derived.Deep.DeepCutAuto
import Derived.Deep.RegionWith
set_option linter.unusedSimpArgs false
set_option linter.unusedVariables false
set_option maxRecDepth 100000
set_option maxHeartbeats 4000000
namespace Go.Proofs.YthecibbmbnpegaaGreatDoor
open Go.Big Go.RowKit
attribute [local go_sem ↓] Go.wp_at_zero Go.wp_at_succ
theorem bit_one{t:Int}(h0:0<=t)(h1:t<18446744073709551616):(bits .and .u64 t 1==1)=decide (t%2=1):=by
 rw[and_one h0 h1];by_cases h:t%2=1
 ·rw[h];rfl
 ·rw[decide_eq_false h,beq_eq_false_iff_ne];exact h
theorem one_word{xs:List Int}(h:1<val 18446744073709551616 xs):0<xs.length/\(xs.length=1->xs.getD 0 0≠1):=by
 refine⟨?_,fun h1 e=> ?_⟩
 ·rcases Nat.eq_zero_or_pos xs.length with h0|h0
  ·rw[List.eq_nil_of_length_eq_zero h0,val_nil]at h;omega
  ·exact h0
 ·have:=val_take_succ' 18446744073709551616 xs 0
  rw[List.take_of_length_le (by omega),List.take_zero,val_nil,e]at this;rw[this]at h;simp at h
theorem pow_len{L:Nat}{ms:List Int}(hd:DG 18446744073709551616 ms)(hl:ms.length<=60)(h:val 18446744073709551616 ms=2^L):L<=3840:=by
 rcases Nat.lt_or_ge 3840 L with hh|hh
 ·exfalso
  have h1:=val_lt (B:=18446744073709551616) (by omega) hd;have h2:=pow_le_pow_ (B:=2) (by omega) (show 64*ms.length<=L by omega);have e:(18446744073709551616:Int)^ms.length=2^(64*ms.length):=by rw[show(18446744073709551616:Int)=2^64 from rfl,<- Int.pow_mul]
  rw[e]at h1;omega
 ·exact hh
section
variable {s bz cz bx ox cx by_ oy cy bm om cm Y:Nat}{q:Option StkSt}{wB w:World}{xs ys ms:List Int}
structure ExZ(s:Nat)(q:Option StkSt)(wB w:World)(bz cz bx ox cx:Nat)(xs:List Int)(by_ oy cy:Nat)(ys:List Int)(bm om cm:Nat)(ms:List Int)(Y:Nat):Prop where
 lv:Lv s wB q w q [⟨some ⟨bz,0,none⟩,bz,0,cz,[]⟩] [⟨some ⟨bx,ox,none⟩,bx,ox,cx,xs⟩,⟨some ⟨by_,oy,none⟩,by_,oy,cy,ys⟩,⟨some ⟨bm,om,none⟩,bm,om,cm,ms⟩]
 fB:Fr [] wB w
 hb:wB.heap.size<=bz
 hc:ms.length<=cz
 nw:NewS s q bz
 ln:lenS q<=40000000000
 hx:bx<wB.heap.size
 hy:by_<wB.heap.size
 hm:bm<wB.heap.size
 nx:NZ xs
 ny:NZ ys
 nm:NZ ms
 x1:1<val 18446744073709551616 xs
 m1:1<val 18446744073709551616 ms
 x9:xs.length<=100
 y2:2<=ys.length
 y9:ys.length<=100
 m9:ms.length<=60
 yv:val 18446744073709551616 ys=(Y:Int)
theorem ExZ.fr0{w1:World}(h:ExZ s q wB w bz cz bx ox cx xs by_ oy cy ys bm om cm ms Y)(f:Fr [] w w1):ExZ s q wB w1 bz cz bx ox cx xs by_ oy cy ys bm om cm ms Y:=
 ⟨h.lv.fr0 f,h.fB.t f,h.hb,h.hc,h.nw,h.ln,h.hx,h.hy,h.hm,h.nx,h.ny,h.nm,h.x1,h.m1,h.x9,h.y2,h.y9,h.m9,h.yv⟩
theorem ExZ.odd(h:ExZ s q wB w bz cz bx ox cx xs by_ oy cy ys bm om cm ms Y)(ho:val 18446744073709551616 ms%2=1):
 Calls Tryz.prog 65 #[.slice (some ⟨bz,0,none⟩) ms.length cz,.pointer (some ⟨s,0,none⟩),.slice (some ⟨bx,ox,none⟩) xs.length cx,.slice (some ⟨by_,oy,none⟩) ys.length cy,.slice (some ⟨bm,om,none⟩) ms.length cm] w (RetS s q (val 18446744073709551616 xs^Y%val 18446744073709551616 ms) wB):=by
 have hx:=(one_word h.x1).1;have hm:=(one_word h.m1).1
 have hl:Lv s w q w q [] [⟨some ⟨bx,ox,none⟩,bx,ox,cx,xs⟩,⟨some ⟨bz,0,none⟩,bz,0,cz,[]⟩,⟨some ⟨by_,oy,none⟩,by_,oy,cy,ys⟩,⟨some ⟨bm,om,none⟩,bm,om,cm,ms⟩]:=by
  have h1:=h.lv.here;have p:([⟨some ⟨bz,0,none⟩,bz,0,cz,[]⟩]++[⟨some ⟨bx,ox,none⟩,bx,ox,cx,xs⟩,⟨some ⟨by_,oy,none⟩,by_,oy,cy,ys⟩,⟨some ⟨bm,om,none⟩,bm,om,cm,ms⟩]:List Pn).Perm [⟨some ⟨bx,ox,none⟩,bx,ox,cx,xs⟩,⟨some ⟨bz,0,none⟩,bz,0,cz,[]⟩,⟨some ⟨by_,oy,none⟩,by_,oy,cy,ys⟩,⟨some ⟨bm,om,none⟩,bm,om,cm,ms⟩]:=List.Perm.swap _ _ _;exact lv_here h1.st h1.ln h1.gl (fun r hr=>h1.ok r ((p.mem_iff).2 hr)) ((p.pairwise_iff (fun h=>PDj.symm h)).1 h1.dj)
 exact mont_walk hl h.hc rfl hm (by have:=h.m9;omega) hx h.x9 (by have:=h.y2;omega) h.y9 (by have:=h.hx;have:=h.hb;omega) (by have:=h.hy;have:=h.hb;omega) (by have:=h.hm;have:=h.hb;omega) h.nw h.nx h.ny h.nm ho h.yv h.fB h.hb
theorem ExZ.pow(h:ExZ s q wB w bz cz bx ox cx xs by_ oy cy ys bm om cm ms Y){L:Nat}(ho:val 18446744073709551616 ms=2^L):
 Calls Tryz.prog 67 #[.slice (some ⟨bz,0,none⟩) ms.length cz,.pointer (some ⟨s,0,none⟩),.slice (some ⟨bx,ox,none⟩) xs.length cx,.slice (some ⟨by_,oy,none⟩) ys.length cy,.int .u64 (L:Int)] w (RetS s q (val 18446744073709551616 xs^Y%val 18446744073709551616 ms) wB):=by
 have hx:=(one_word h.x1).1;have hdm:=(h.lv.ok ⟨some ⟨bm,om,none⟩,bm,om,cm,ms⟩ (by simp)).dg;have hL:=pow_len hdm h.m9 ho
 have hL0:0<L:=by
  rcases Nat.eq_zero_or_pos L with h0|h0
  ·have:=h.m1;rw[ho,h0]at this;simp at this
  ·exact h0
 have hl:Lv s wB q w q [⟨some ⟨bz,0,none⟩,bz,0,cz,[]⟩] [⟨some ⟨bx,ox,none⟩,bx,ox,cx,xs⟩,⟨some ⟨by_,oy,none⟩,by_,oy,cy,ys⟩]:=h.lv.sub (by simp) (by simp);have hz:NwP wB.heap.size s q ⟨some ⟨bz,0,none⟩,bz,0,cz,[]⟩:= .inr ⟨h.hb,h.nw⟩;rw[ho];by_cases hev:val 18446744073709551616 xs%2=0
 ·exact win_even hl hz h.hc hL0 hL hx h.x9 h.y2 h.y9 h.ny h.yv hev
 ·by_cases h1:L=1
  ·subst h1
   exact win_one hl hz h.hc hx h.x9 h.y2 h.y9 (by omega)
  ·exact win_main hl hz h.hc h.ln (by omega) hL hx h.x9 h.nx h.y2 h.y9 h.ny h.yv (by omega)
theorem exS(hst:StkAt w s q)(hln:lenS q<=40000000000)(hg:Gl w)(hT:TabW w)(kx:PnOk s q w ⟨some ⟨bx,ox,none⟩,bx,ox,cx,xs⟩)(ky:PnOk s q w ⟨some ⟨by_,oy,none⟩,by_,oy,cy,ys⟩)(km:PnOk s q w ⟨some ⟨bm,om,none⟩,bm,om,cm,ms⟩)(nx:NZ xs)(ny:NZ ys)(nm:NZ ms)
 (hd:[(⟨some ⟨bx,ox,none⟩,bx,ox,cx,xs⟩:Pn),⟨some ⟨by_,oy,none⟩,by_,oy,cy,ys⟩,⟨some ⟨bm,om,none⟩,bm,om,cm,ms⟩].Pairwise PDj)(hx1:1<val 18446744073709551616 xs)(hx9:xs.length<=100)(hy2:2<=ys.length)(hy9:ys.length<=100)(hm1:1<val 18446744073709551616 ms)(hm9:ms.length<=60)(hY:val 18446744073709551616 ys=(Y:Int))
 (hr:val 18446744073709551616 ms%2=1\/ ∃L:Nat,val 18446744073709551616 ms=2^L):
 Calls Tryz.prog 39 #[.slice none 0 0,.pointer (some ⟨s,0,none⟩),.slice (some ⟨bx,ox,none⟩) xs.length cx,.slice (some ⟨by_,oy,none⟩) ys.length cy,.slice (some ⟨bm,om,none⟩) ms.length cm,.bool false] w (RetS s q (val 18446744073709551616 xs^Y%val 18446744073709551616 ms) w):=by
 obtain⟨hxl0,hx0⟩:=one_word hx1;obtain⟨hml0,hm0⟩:=one_word hm1
 have hL0:Lv s w q w q [] [⟨some ⟨bx,ox,none⟩,bx,ox,cx,xs⟩,⟨some ⟨by_,oy,none⟩,by_,oy,cy,ys⟩,⟨some ⟨bm,om,none⟩,bm,om,cm,ms⟩]:=lv_here hst (by omega) hg (fun p hp=>by
  simp only[List.mem_cons,List.not_mem_nil,or_false]at hp;rcases hp with rfl|rfl|rfl
  ·exact kx
  ·exact ky
  ·exact km) hd;obtain⟨x0,hx0e⟩: ∃x0,x0=xs.getD 0 0:=⟨_,rfl⟩;obtain⟨m0,hm0e⟩: ∃m0,m0=ms.getD 0 0:=⟨_,rfl⟩;have CX:=κ (show∀W,Fr [] w W->W.cell? ⟨bx,ox,none⟩=some (.int .u64 x0)from fun W f=>by have:=(kx.nm.fr0 f).2.2 hxl0 0 hxl0;rw[Nat.add_zero]at this;rw[hx0e];exact this);have CM:=κ (show∀W,Fr [] w W->W.cell? ⟨bm,om,none⟩=some (.int .u64 m0)from fun W f=>by have:=(km.nm.fr0 f).2.2 hml0 0 hml0;rw[Nat.add_zero]at this;rw[hm0e];exact this);rw[<-hx0e]at hx0;rw[<-hm0e]at hm0;have hm0d:=km.dg.getD (by omega) 0;simp only at hm0d;rw[<-hm0e]at hm0d;have hbit:=bit_one hm0d.1 hm0d.2;have hpar:val 18446744073709551616 ms%2=m0%2:=by rw[hm0e];exact(val_odd hml0).symm
 have hmx:=kx.c9;have hmy:=ky.c9;have hmz:=km.c9;have hnc:=kx.nm.le;have hyc:=ky.nm.le;have hmc:=km.nm.le;simp only at hmx hmy hmz hnc hyc hmc;have ex0:((xs.length:Int)==0)=false:=by rw[beq_eq_false_iff_ne];omega
 have ey0:((ys.length:Int)==0)=false:=by rw[beq_eq_false_iff_ne];omega
 have ey1:((ys.length:Int)==1)=false:=by rw[beq_eq_false_iff_ne];omega
 have em0:((ms.length:Int) !=0)=true:=by rw[bne_iff_ne];omega
 have hyg:(1:Int)<(ys.length:Int):=by omega
 have HL0:=κ hL0;have HT:=κ hT;have HMB:=κ (words_BIG km.dg (show ms.length<=1000000 by omega));have HMS:=κ (show∀W,Fr [] w W->SW W (.slice (some ⟨bm,om,none⟩) ms.length cm) (val 18446744073709551616 ms)from fun W f=>(km.nm.fr0 f).sw km.dg nm)
 have HZ:=κ (show∀(W:World) (b c:Nat),Fr [] w W->w.heap.size<=b->ms.length<=c->NewS s q b->Lv s w q W q [⟨some ⟨b,0,none⟩,b,0,c,[]⟩] [⟨some ⟨bx,ox,none⟩,bx,ox,cx,xs⟩,⟨some ⟨by_,oy,none⟩,by_,oy,cy,ys⟩,⟨some ⟨bm,om,none⟩,bm,om,cm,ms⟩]->ExZ s q w W b c bx ox cx xs by_ oy cy ys bm om cm ms Y from
  fun W b c f hb hc hn hl=>⟨hl,f,hb,hc,hn,hln,kx.lt (by simp only;omega),ky.lt (by simp only;omega),km.lt (by simp only;omega),nx,ny,nm,hx1,hm1,hx9,hy2,hy9,hm9,hY⟩);have HST:=κ hst;have HR:=κ hr;have HPAR:=κ hpar;have HMP:=κ (show 0<val 18446744073709551616 ms by omega);have CMK:=κ (fun W=>make_any ms.length W (by omega) (by omega));have T1:True:=trivial;clear hL0 hT kx ky km nx ny nm hd hx1 hm1 hY hr hg hst hpar hx0e hm0e hln hm0d;go_enter_defers Tryz.func39,Tryz.ntmps39;refine wp_mono ?_ bodyPostN_D
 go_upto_if 31 with(first
  |(go_at_call 37;clear T1;refine(alias_nil _ _ _ _).mono ?_;rintro e w1 ⟨rfl,f1⟩;have F1:=κ f1;clear f1)
  |(go_at_call 37;refine(alias_nil _ _ _ _).mono ?_;rintro e w2 ⟨rfl,f2⟩;have F2:=κ (F1.out.t f2);clear f2));have cx2:=CX.out _ F2.out;have cm2:=CM.out _ F2.out;go_upto_region 3 with fail;go_cut [40]from 32 to 40 (fun v wx=>v= .bool false/\w2=wx)
 case first=>
  by_cases h1:ms.length=1
  ·have h1b:((ms.length:Int)==1)=true:=by rw[beq_iff_eq];omega
   have h2b:(m0==1)=false:=by rw[beq_eq_false_iff_ne];exact hm0 h1
   have h3:(0:Int)<(ms.length:Int):=by omega
   clear h1 hm0 hx0 hbit;go_wp2_with fail;go_meet;exact⟨rfl,rfl⟩
  ·have h1b:((ms.length:Int)==1)=false:=by rw[beq_eq_false_iff_ne];omega
   clear h1 hm0 hx0 hbit;go_wp2_with fail;go_meet;exact⟨rfl,rfl⟩
 case rest=>
  obtain⟨rfl,rfl⟩:=hcut;go_upto_region 9 with fail;go_cut [61]from 53 to 61 (fun v wx=>v= .bool false/\w2=wx)
  case first=>
   by_cases h1:xs.length=1
   ·have h1b:((xs.length:Int)==1)=true:=by rw[beq_iff_eq];omega
    have h2b:(x0==1)=false:=by rw[beq_eq_false_iff_ne];exact hx0 h1
    have h3:(0:Int)<(xs.length:Int):=by omega
    clear h1 hm0 hx0 hbit;go_wp2_with fail;go_meet;exact⟨rfl,rfl⟩
   ·have h1b:((xs.length:Int)==1)=false:=by rw[beq_eq_false_iff_ne];omega
    clear h1 hm0 hx0 hbit;go_wp2_with fail;go_meet;exact⟨rfl,rfl⟩
  case rest=>
   obtain⟨rfl,rfl⟩:=hcut;clear hm0 hx0 cm2;go_upto_region 21 with(go_at_call 42;refine(CMK.out _).mono ?_;rintro e w4 ⟨bz,cz,rfl,hc1,hc2,row,hz,f4⟩;have L4:=κ (lv_made (HL0.out.fr0 F2.out) f4 hz row hc1 hc2 (by omega));have F4:=κ (F2.out.t f4);have E4:=κ (HZ.out w4 bz cz F4.out (by have:=F2.out.size;omega) hc1 (NewS.of (HL0.out.fr0 F2.out).st hz) L4.out);have cm4:w4.cell? ⟨bm,om,none⟩=some (.int .u64 m0):=CM.out _ F4.out;clear row f4 hz);have hml:(0:Int)<(ms.length:Int):=by omega
   by_cases hodd:m0%2=1
   ·rw[decide_eq_true hodd]at hbit
    have CO:=κ (E4.out.odd (by rw[HPAR.out];exact hodd));clear hodd;go_wp2_with (go_at_call 65;refine(CO.out).mono ?_;rintro e w5 ⟨p5,q5,rfl,h5⟩;have H5:=κ h5;clear h5);show Leaves _ _ _ _ _ _ _;refine⟨_,results_tmp rfl _ _ _,?_⟩;exact⟨p5,q5,rfl,H5.out⟩
   ·rw[decide_eq_false hodd]at hbit
    obtain⟨L,hL⟩: ∃L:Nat,val 18446744073709551616 ms=2^L:=by
     rcases HR.out with h|h
     ·rw[HPAR.out]at h;exact absurd h hodd
     ·exact h
    have CI:=κ (isPow2_any _ _ w4 (HMS.out _ F4.out) HMB.out HMP.out (HT.out.fr0 F4.out));have HLV:=κ hL;clear hodd hL
    go_wp2_with (first
     |(go_at_call 66;refine(CI.out).mono ?_;rintro e w5 ⟨t,ht,ht9,hp,f5⟩;obtain rfl:L=t:=tz_pow (by rw[<-HLV.out];exact ht);obtain⟨_,rfl⟩:=hp.resolve_right (fun hh=>hh.1 HLV.out);have C5:=κ ((E4.out.fr0 f5).pow HLV.out);clear ht ht9 hp f5)
     |(go_at_call 67;refine(C5.out).mono ?_;rintro e w6 ⟨p6,q6,rfl,h6⟩;have H6:=κ h6;clear h6));show Leaves _ _ _ _ _ _ _;refine⟨_,results_tmp rfl _ _ _,?_⟩;exact⟨p6,q6,rfl,H6.out⟩
end
end Go.Proofs.YthecibbmbnpegaaGreatDoor
