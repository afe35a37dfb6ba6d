/-
  Part 46 of the proof of the law FnExpSum: XEn, XWof, XIe. Conditions: those of each statement.
-/
import Derived.Test.YthecibbmbnpegaaGreatDoorK45
import Derived.Laws.Bits64
import Derived.Deep.DeepCutAuto
import Derived.Deep.RegionWith
set_option linter.unusedSimpArgs false
set_option linter.unusedVariables false
set_option maxRecDepth 100000
set_option maxHeartbeats 4000000
namespace Go.Proofs.YthecibbmbnpegaaGreatDoor
open Go.Big Go.RowKit
attribute [local go_sem ↓] Go.wp_at_zero Go.wp_at_succ
theorem RetPn.fr{V:Int}{w w1 w':World}{e:Ending}(h:RetPn V w1 e w')(f:Fr [] w w1):RetPn V w e w':=by
 obtain⟨p,h1,h2,h3,h4,h5⟩:=h;exact⟨p,h1,h2,h3,f.t h4,h5.imp id (fun a=>Nat.le_trans f.size a)⟩
theorem setWordP{v:Int}(w:World)(h0:0<=v)(h1:v<18446744073709551616):Calls Tryz.prog 46 #[.slice none 0 0,.int .u64 v] w (RetPn v w):=by
 refine(setWordR_any none 0 0 0 0 v w (Rcv.nil _ _ _) (Nat.le_refl _) h0 h1).mono ?_;rintro e w' ⟨A',b',o',c',zs,rfl,k1,k2,k3,k4,k5,k6⟩;refine⟨⟨A',b',o',c',zs⟩,rfl,⟨k1,k2,k3⟩,k4,Fc.fr_new' k6 (Fr.refl _ _) (fun b i hh=> ?_),k5.imp (fun a=>a.2.2.2) (fun a=>a.1)⟩;exact(In1.nil (by omega) hh).elim
theorem RetPn.val{V:Int}{w w':World}{e:Ending}(h:RetPn V w e w'): ∃A l c,e= .returned (.slice A l c):=by
 obtain⟨p,h,_⟩:=h;exact⟨_,_,_,h⟩
section
variable {w:World}{Ax Ay Am:Option Addr}{bx ox cx by_ oy cy bm om cm Y:Nat}{xs ys ms:List Int}
theorem rem_out{w3 w4 w10:World}{s:Nat}{V:Int}{p4:Pn}{q4:Option StkSt}(h:PnE w4 p4/\p4.n=V/\(p4.c=0\/w3.heap.size<=p4.b)/\StkAt w4 s q4/\StkLe w3.heap.size none q4/\Fc 51 (StS s none) w3 w4)(hf:Fc 51 (FreeS q4) w4 w10)(f:Fr [] w w3)(hs:w.heap.size<=s):RetPn V w (.returned p4.v) w10:=by
 obtain⟨h2,h3,h5,h7,h8,h10⟩:=h;have hsz:=f.size;refine⟨p4,rfl,⟨h2.nm.fc hf (fun i a1 a2 hh=> ?_),h2.dg,h2.nz⟩,h3,Fc.fr_new' (h10.trans hf (fun b i hh hlt=> ?_)) f (fun b i hh=>by simp only[StS]at hh;omega),h5.imp id (fun hh=>by omega)⟩
 ·obtain⟨p1,rfl,e⟩:=hh
  have hle:=h2.nm.le;obtain⟨L,hL,_⟩:=h2.nm.rcv.row (by omega);exact h7.2.row_ne hL e
 ·obtain⟨p1,rfl,e⟩:=hh
  simp only[StkLe]at h8;omega
theorem rs_out{w3 w4 w10:World}{s:Nat}{V:Int}{p4:Pn}{q4:Option StkSt}(h:PnE w4 p4/\p4.n=V/\p4.c<=9223372036854775807/\w3.heap.size<=p4.b/\NewS s q4 p4.b/\StkAt w4 s q4/\StkLe w3.heap.size none q4/\lenS q4=lenS none/\Fc 51 (StS s none) w3 w4)(hf:Fc 51 (FreeS q4) w4 w10)(f:Fr [] w w3)(hs:w.heap.size<=s):RetPn V w (.returned p4.v) w10:=
 rem_out ⟨h.1,h.2.1,.inr h.2.2.2.1,h.2.2.2.2.2.1,h.2.2.2.2.2.2.1,h.2.2.2.2.2.2.2.2⟩ hf f hs
theorem exz_mk{w2 w3 w4:World}{s bz cz:Nat}(l:Lv s w3 none w4 none [⟨some ⟨bz,0,none⟩,bz,0,cz,[]⟩] [⟨some ⟨bx,ox,none⟩,bx,ox,cx,xs⟩,⟨some ⟨by_,oy,none⟩,by_,oy,cy,ys⟩,⟨some ⟨bm,om,none⟩,bm,om,cm,ms⟩])(f4:Fr [] w3 w4)(hz:w3.heap.size<=bz)(hc:ms.length<=cz)(hst:StkAt w3 s none)(f2:Fr [] w w2)(f3:Fr [] w2 w3)
 (hx:PnE w ⟨some ⟨bx,ox,none⟩,bx,ox,cx,xs⟩)(hy:PnE w ⟨some ⟨by_,oy,none⟩,by_,oy,cy,ys⟩)(hm:PnE w ⟨some ⟨bm,om,none⟩,bm,om,cm,ms⟩)(hx1:1<val 18446744073709551616 xs)(hm1:1<val 18446744073709551616 ms)(hx9:xs.length<=100)(hy2:2<=ys.length)(hy9:ys.length<=100)(hm9:ms.length<=60)(hY:val 18446744073709551616 ys=(Y:Int)):
 ExZ s none w3 w4 bz cz bx ox cx xs by_ oy cy ys bm om cm ms Y:=by
 have h1:=f2.size;have h2:=f3.size;have k1:bx<w.heap.size:=hx.nm.lt (one_word hx1).1;have k2:by_<w.heap.size:=hy.nm.lt (by simp only;omega);have k3:bm<w.heap.size:=hm.nm.lt (one_word hm1).1;exact⟨l,f4,hz,hc,NewS.of hst hz,by simp only[lenS];omega,by omega,by omega,by omega,hx.nz,hy.nz,hm.nz,hx1,hm1,hx9,hy2,hy9,hm9,hY⟩
theorem exz_even{w3 w5:World}{s bz cz:Nat}(E:ExZ s none w3 w5 bz cz bx ox cx xs by_ oy cy ys bm om cm ms Y)(hT: ∀wx,Fc 51 (StS s none) w3 wx->TabW wx)(hev:val 18446744073709551616 ms%2=0)(hnp: ∀L:Nat,val 18446744073709551616 ms≠2^L):
 Calls Tryz.prog 68 #[.slice (some ⟨bz,0,none⟩) ms.length cz,.pointer (some ⟨s,0,none⟩),.slice (some ⟨bx,ox,none⟩) xs.length cx,.slice (some ⟨by_,oy,none⟩) ys.length cy,.slice (some ⟨bm,om,none⟩) ms.length cm] w5 (RetS s none (val 18446744073709551616 xs^Y%val 18446744073709551616 ms) w3):=by
 have hb:Bv s w3 none w5 none [⟨some ⟨bz,0,none⟩,bz,0,cz,[]⟩] [⟨some ⟨bx,ox,none⟩,bx,ox,cx,xs⟩,⟨some ⟨by_,oy,none⟩,by_,oy,cy,ys⟩,⟨some ⟨bm,om,none⟩,bm,om,cm,ms⟩]:=by
  refine⟨E.lv,fun p hp=> ?_,List.pairwise_singleton _ _,fun p hp r hr=> ?_⟩
  ·rw[List.mem_singleton]at hp;subst hp
   exact .inr ⟨E.hb,E.nw⟩
  ·rw[List.mem_singleton]at hp;subst hp
   have h1:=E.hb;have h2:=E.hx;have h3:=E.hy;have h4:=E.hm;simp only[List.mem_cons,List.not_mem_nil,or_false]at hr;rcases hr with rfl|rfl|rfl<;>exact .inr (.inr (by simp only;omega))
 exact even_any (x:=⟨some ⟨bx,ox,none⟩,bx,ox,cx,xs⟩) (y:=⟨some ⟨by_,oy,none⟩,by_,oy,cy,ys⟩) (m:=⟨some ⟨bm,om,none⟩,bm,om,cm,ms⟩) hb E.ln hT E.nx E.ny E.nm E.x1 E.x9 E.y2 E.y9 E.m1 E.m9 E.yv hev hnp E.hc
theorem exN_m1(hm:PnE w ⟨some ⟨bm,om,none⟩,bm,om,cm,[1]⟩)(hx9:xs.length<=cx)(hcx:cx<=maxLen)(hy9:ys.length<=cy)(hcy:cy<=maxLen):
 Calls Tryz.prog 39 #[.slice none 0 0,.pointer none,.slice Ax xs.length cx,.slice Ay ys.length cy,.slice (some ⟨bm,om,none⟩) 1 cm,.bool false] w (RetPn 0 w):=by
 have CM:=κ (show∀W,Fr [] w W->W.cell? ⟨bm,om,none⟩=some (.int .u64 1)from fun W f=>by have:=(hm.fr0 f).nm.2.2 (by simp) 0 (by simp);rw[Nat.add_zero]at this;exact this);have CW:=κ (fun W=>setWordP (v:=0) W (by omega) (by omega));have hmc:=hm.nm.le;have hmz:=hm.nm.max;unfold maxLen at hmz hcx hcy;simp only[List.length_singleton]at hmc hmz;have T1:True:=trivial;clear hm;go_enter_defers Tryz.func39,Tryz.ntmps39;refine wp_mono ?_ bodyPostN_D
 go_upto_if 31 with(first
  |(go_at_call 37;clear T1;refine(alias_nil _ _ _ _).mono ?_;rintro e w1 ⟨rfl,f1⟩;have F1:=κ f1;clear f1)
  |(go_at_call 37;refine(alias_nil _ _ _ _).mono ?_;rintro e w2 ⟨rfl,f2⟩;have F2:=κ (F1.out.t f2);clear f2));have cm2:=CM.out _ F2.out;go_wp2_with (go_at_call 46;refine(CW.out w2).mono ?_;intro e w3 hp;have HP:=κ hp;obtain⟨A3,l3,c3,rfl⟩:=hp.val;clear hp);show Leaves _ _ _ _ _ _ _;refine⟨_,results_tmp rfl _ _ _,?_⟩;exact HP.out.fr F2.out
theorem exN_y0(hm:PnE w ⟨some ⟨bm,om,none⟩,bm,om,cm,ms⟩)(hm1:1<val 18446744073709551616 ms)(hm9:ms.length<=1000)(hx9:xs.length<=cx)(hcx:cx<=maxLen)(hcy:cy<=maxLen):
 Calls Tryz.prog 39 #[.slice none 0 0,.pointer none,.slice Ax xs.length cx,.slice Ay 0 cy,.slice (some ⟨bm,om,none⟩) ms.length cm,.bool false] w (RetPn 1 w):=by
 obtain⟨m0,hm0e⟩: ∃m0,m0=ms.getD 0 0:=⟨_,rfl⟩;obtain⟨hml0,hm0⟩:=one_word hm1;have hmc:=hm.nm.le;have hmz:=hm.nm.max;unfold maxLen at hmz;simp only at hmc hmz;have CM:=κ (show∀W,Fr [] w W->W.cell? ⟨bm,om,none⟩=some (.int .u64 m0)from fun W f=>by have:=(hm.fr0 f).nm.2.2 hml0 0 hml0;rw[Nat.add_zero]at this;rw[hm0e];exact this);rw[<-hm0e]at hm0;have CW:=κ (fun W=>setWordP (v:=1) W (by omega) (by omega));unfold maxLen at hcx hcy;have T1:True:=trivial;clear hm hm0e hm1;go_enter_defers Tryz.func39,Tryz.ntmps39;refine wp_mono ?_ bodyPostN_D
 go_upto_if 31 with(first
  |(go_at_call 37;clear T1;refine(alias_nil _ _ _ _).mono ?_;rintro e w1 ⟨rfl,f1⟩;have F1:=κ f1;clear f1)
  |(go_at_call 37;refine(alias_nil _ _ _ _).mono ?_;rintro e w2 ⟨rfl,f2⟩;have F2:=κ (F1.out.t f2);clear f2));have cm2:=CM.out _ F2.out;go_upto_region 3 with fail;go_cut [40]from 32 to 40 (fun v wx=>v= .bool false/\w2=wx)
 case first=>
  by_cases h1:ms.length=1
  ·have h1b:((ms.length:Int)==1)=true:=by rw[beq_iff_eq];omega
   have h2b:(m0==1)=false:=by rw[beq_eq_false_iff_ne];exact hm0 h1
   have h3:(0:Int)<(ms.length:Int):=by omega
   clear h1 hm0;go_wp2_with fail;go_meet;exact⟨rfl,rfl⟩
  ·have h1b:((ms.length:Int)==1)=false:=by rw[beq_eq_false_iff_ne];omega
   clear h1 hm0;go_wp2_with fail;go_meet;exact⟨rfl,rfl⟩
 case rest=>
  obtain⟨rfl,rfl⟩:=hcut;go_wp2_with (go_at_call 46;refine(CW.out w2).mono ?_;intro e w3 hp;have HP:=κ hp;obtain⟨A3,l3,c3,rfl⟩:=hp.val;clear hp);show Leaves _ _ _ _ _ _ _;refine⟨_,results_tmp rfl _ _ _,?_⟩;exact HP.out.fr F2.out
theorem exN_x0(hm:PnE w ⟨some ⟨bm,om,none⟩,bm,om,cm,ms⟩)(hm1:1<val 18446744073709551616 ms)(hm9:ms.length<=1000)(hy1:1<=ys.length)(hyc:ys.length<=cy)(hcx:cx<=maxLen)(hcy:cy<=maxLen):
 Calls Tryz.prog 39 #[.slice none 0 0,.pointer none,.slice Ax 0 cx,.slice Ay ys.length cy,.slice (some ⟨bm,om,none⟩) ms.length cm,.bool false] w (RetPn 0 w):=by
 obtain⟨m0,hm0e⟩: ∃m0,m0=ms.getD 0 0:=⟨_,rfl⟩;obtain⟨hml0,hm0⟩:=one_word hm1;have hmc:=hm.nm.le;have hmz:=hm.nm.max;unfold maxLen at hmz;simp only at hmc hmz;have CM:=κ (show∀W,Fr [] w W->W.cell? ⟨bm,om,none⟩=some (.int .u64 m0)from fun W f=>by have:=(hm.fr0 f).nm.2.2 hml0 0 hml0;rw[Nat.add_zero]at this;rw[hm0e];exact this);rw[<-hm0e]at hm0;have CW:=κ (fun W=>setWordP (v:=0) W (by omega) (by omega));have ey0:((ys.length:Int)==0)=false:=by rw[beq_eq_false_iff_ne];omega
 unfold maxLen at hcx hcy;have T1:True:=trivial;clear hm hm0e hm1;go_enter_defers Tryz.func39,Tryz.ntmps39;refine wp_mono ?_ bodyPostN_D
 go_upto_if 31 with(first
  |(go_at_call 37;clear T1;refine(alias_nil _ _ _ _).mono ?_;rintro e w1 ⟨rfl,f1⟩;have F1:=κ f1;clear f1)
  |(go_at_call 37;refine(alias_nil _ _ _ _).mono ?_;rintro e w2 ⟨rfl,f2⟩;have F2:=κ (F1.out.t f2);clear f2));have cm2:=CM.out _ F2.out;go_upto_region 3 with fail;go_cut [40]from 32 to 40 (fun v wx=>v= .bool false/\w2=wx)
 case first=>
  by_cases h1:ms.length=1
  ·have h1b:((ms.length:Int)==1)=true:=by rw[beq_iff_eq];omega
   have h2b:(m0==1)=false:=by rw[beq_eq_false_iff_ne];exact hm0 h1
   have h3:(0:Int)<(ms.length:Int):=by omega
   clear h1 hm0;go_wp2_with fail;go_meet;exact⟨rfl,rfl⟩
  ·have h1b:((ms.length:Int)==1)=false:=by rw[beq_eq_false_iff_ne];omega
   clear h1 hm0;go_wp2_with fail;go_meet;exact⟨rfl,rfl⟩
 case rest=>
  obtain⟨rfl,rfl⟩:=hcut;go_wp2_with (go_at_call 46;refine(CW.out w2).mono ?_;intro e w3 hp;have HP:=κ hp;obtain⟨A3,l3,c3,rfl⟩:=hp.val;clear hp);show Leaves _ _ _ _ _ _ _;refine⟨_,results_tmp rfl _ _ _,?_⟩;exact HP.out.fr F2.out
theorem exN_x1(hm:PnE w ⟨some ⟨bm,om,none⟩,bm,om,cm,ms⟩)(hx:PnE w ⟨some ⟨bx,ox,none⟩,bx,ox,cx,[1]⟩)(hm1:1<val 18446744073709551616 ms)(hm9:ms.length<=1000)(hy1:1<=ys.length)(hyc:ys.length<=cy)(hcy:cy<=maxLen):
 Calls Tryz.prog 39 #[.slice none 0 0,.pointer none,.slice (some ⟨bx,ox,none⟩) 1 cx,.slice Ay ys.length cy,.slice (some ⟨bm,om,none⟩) ms.length cm,.bool false] w (RetPn 1 w):=by
 obtain⟨m0,hm0e⟩: ∃m0,m0=ms.getD 0 0:=⟨_,rfl⟩;obtain⟨hml0,hm0⟩:=one_word hm1;have hmc:=hm.nm.le;have hmz:=hm.nm.max;unfold maxLen at hmz;simp only at hmc hmz;have CM:=κ (show∀W,Fr [] w W->W.cell? ⟨bm,om,none⟩=some (.int .u64 m0)from fun W f=>by have:=(hm.fr0 f).nm.2.2 hml0 0 hml0;rw[Nat.add_zero]at this;rw[hm0e];exact this);rw[<-hm0e]at hm0;have CW:=κ (fun W=>setWordP (v:=1) W (by omega) (by omega));have CX:=κ (show∀W,Fr [] w W->W.cell? ⟨bx,ox,none⟩=some (.int .u64 1)from fun W f=>by have:=(hx.fr0 f).nm.2.2 (by simp) 0 (by simp);rw[Nat.add_zero]at this;exact this);have hcx:=hx.nm.max;have hxc:=hx.nm.le;simp only[List.length_singleton]at hcx hxc;have ey0:((ys.length:Int)==0)=false:=by rw[beq_eq_false_iff_ne];omega
 unfold maxLen at hcx hcy;have T1:True:=trivial;clear hm hm0e hm1 hx;go_enter_defers Tryz.func39,Tryz.ntmps39;refine wp_mono ?_ bodyPostN_D
 go_upto_if 31 with(first
  |(go_at_call 37;clear T1;refine(alias_nil _ _ _ _).mono ?_;rintro e w1 ⟨rfl,f1⟩;have F1:=κ f1;clear f1)
  |(go_at_call 37;refine(alias_nil _ _ _ _).mono ?_;rintro e w2 ⟨rfl,f2⟩;have F2:=κ (F1.out.t f2);clear f2));have cm2:=CM.out _ F2.out;have cx2:=CX.out _ F2.out;go_upto_region 3 with fail;go_cut [40]from 32 to 40 (fun v wx=>v= .bool false/\w2=wx)
 case first=>
  by_cases h1:ms.length=1
  ·have h1b:((ms.length:Int)==1)=true:=by rw[beq_iff_eq];omega
   have h2b:(m0==1)=false:=by rw[beq_eq_false_iff_ne];exact hm0 h1
   have h3:(0:Int)<(ms.length:Int):=by omega
   clear h1 hm0;go_wp2_with fail;go_meet;exact⟨rfl,rfl⟩
  ·have h1b:((ms.length:Int)==1)=false:=by rw[beq_eq_false_iff_ne];omega
   clear h1 hm0;go_wp2_with fail;go_meet;exact⟨rfl,rfl⟩
 case rest=>
  obtain⟨rfl,rfl⟩:=hcut;go_wp2_with (go_at_call 46;refine(CW.out w2).mono ?_;intro e w3 hp;have HP:=κ hp;obtain⟨A3,l3,c3,rfl⟩:=hp.val;clear hp);show Leaves _ _ _ _ _ _ _;refine⟨_,results_tmp rfl _ _ _,?_⟩;exact HP.out.fr F2.out
theorem exN_y1(hx:PnE w ⟨some ⟨bx,ox,none⟩,bx,ox,cx,xs⟩)(hy:PnE w ⟨some ⟨by_,oy,none⟩,by_,oy,cy,[1]⟩)(hm:PnE w ⟨some ⟨bm,om,none⟩,bm,om,cm,ms⟩)(hd:[(⟨some ⟨bx,ox,none⟩,bx,ox,cx,xs⟩:Pn),⟨some ⟨by_,oy,none⟩,by_,oy,cy,[1]⟩,⟨some ⟨bm,om,none⟩,bm,om,cm,ms⟩].Pairwise PDj)(hg:Gl w)(hx1:1<val 18446744073709551616 xs)(hm1:1<val 18446744073709551616 ms)(hx9:xs.length<=100)(hm9:ms.length<=100):
 Calls Tryz.prog 39 #[.slice none 0 0,.pointer none,.slice (some ⟨bx,ox,none⟩) xs.length cx,.slice (some ⟨by_,oy,none⟩) 1 cy,.slice (some ⟨bm,om,none⟩) ms.length cm,.bool false] w (RetPn (val 18446744073709551616 xs%val 18446744073709551616 ms) w):=by
 obtain⟨m0,hm0e⟩: ∃m0,m0=ms.getD 0 0:=⟨_,rfl⟩;obtain⟨hml0,hm0⟩:=one_word hm1;have hmc:=hm.nm.le;have hmz:=hm.nm.max;unfold maxLen at hmz;simp only at hmc hmz;have CM:=κ (show∀W,Fr [] w W->W.cell? ⟨bm,om,none⟩=some (.int .u64 m0)from fun W f=>by have:=(hm.fr0 f).nm.2.2 hml0 0 hml0;rw[Nat.add_zero]at this;rw[hm0e];exact this);rw[<-hm0e]at hm0;obtain⟨x0,hx0e⟩: ∃x0,x0=xs.getD 0 0:=⟨_,rfl⟩;obtain⟨hxl0,hx0⟩:=one_word hx1;have hxc:=hx.nm.le;have hcx:=hx.nm.max;unfold maxLen at hcx;simp only at hxc hcx;have CX:=κ (show∀W,Fr [] w W->W.cell? ⟨bx,ox,none⟩=some (.int .u64 x0)from fun W f=>by have:=(hx.fr0 f).nm.2.2 hxl0 0 hxl0;rw[Nat.add_zero]at this;rw[hx0e];exact this);rw[<-hx0e]at hx0;have ex0:((xs.length:Int)==0)=false:=by rw[beq_eq_false_iff_ne];omega
 have CY:=κ (show∀W,Fr [] w W->W.cell? ⟨by_,oy,none⟩=some (.int .u64 1)from fun W f=>by have:=(hy.fr0 f).nm.2.2 (by simp) 0 (by simp);rw[Nat.add_zero]at this;exact this);have hcy:=hy.nm.max;have hyc:=hy.nm.le;simp only[List.length_singleton]at hcy hyc;unfold maxLen at hcy;have em0:((ms.length:Int)==0)=false:=by rw[beq_eq_false_iff_ne];omega
 have HX:=κ hx;have HY:=κ hy;have HM:=κ hm;have HD:=κ hd;have HG:=κ hg;have T1:True:=trivial;clear hm hm0e hm1 hx hx0e hx1 hy hd hg;go_enter_defers Tryz.func39,Tryz.ntmps39;refine wp_mono ?_ bodyPostN_D
 go_upto_if 31 with(first
  |(go_at_call 37;clear T1;refine(alias_nil _ _ _ _).mono ?_;rintro e w1 ⟨rfl,f1⟩;have F1:=κ f1;clear f1)
  |(go_at_call 37;refine(alias_nil _ _ _ _).mono ?_;rintro e w2 ⟨rfl,f2⟩;have F2:=κ (F1.out.t f2);clear f2));have cm2:=CM.out _ F2.out;have cx2:=CX.out _ F2.out;have cy2:=CY.out _ F2.out;go_upto_region 3 with fail;go_cut [40]from 32 to 40 (fun v wx=>v= .bool false/\w2=wx)
 case first=>
  by_cases h1:ms.length=1
  ·have h1b:((ms.length:Int)==1)=true:=by rw[beq_iff_eq];omega
   have h2b:(m0==1)=false:=by rw[beq_eq_false_iff_ne];exact hm0 h1
   have h3:(0:Int)<(ms.length:Int):=by omega
   clear h1 hm0 hx0;go_wp2_with fail;go_meet;exact⟨rfl,rfl⟩
  ·have h1b:((ms.length:Int)==1)=false:=by rw[beq_eq_false_iff_ne];omega
   clear h1 hm0 hx0;go_wp2_with fail;go_meet;exact⟨rfl,rfl⟩
 case rest=>
  obtain⟨rfl,rfl⟩:=hcut;go_upto_region 9 with fail;go_cut [61]from 53 to 61 (fun v wx=>v= .bool false/\w2=wx)
  case first=>
   by_cases h1:xs.length=1
   ·have h1b:((xs.length:Int)==1)=true:=by rw[beq_iff_eq];omega
    have h2b:(x0==1)=false:=by rw[beq_eq_false_iff_ne];exact hx0 h1
    have h3:(0:Int)<(xs.length:Int):=by omega
    clear h1 hm0 hx0;go_wp2_with fail;go_meet;exact⟨rfl,rfl⟩
   ·have h1b:((xs.length:Int)==1)=false:=by rw[beq_eq_false_iff_ne];omega
    clear h1 hm0 hx0;go_wp2_with fail;go_meet;exact⟨rfl,rfl⟩
  case rest=>
   obtain⟨rfl,rfl⟩:=hcut;clear hm0 hx0;go_upto_region 16 with(go_at_call 31;refine(getStackQ_any _).mono ?_;rintro e w3 ⟨s,rfl,hst,f3,hs⟩;have HST:=κ hst;have HS:=κ hs;have F3:=κ f3;clear hst hs f3)
   have L0:=κ (lv_enter HST.out (F2.out.t F3.out) (Nat.le_trans F2.out.size HS.out) HG.out (fun p hp=>by
    simp only[List.mem_cons,List.not_mem_nil,or_false]at hp;rcases hp with rfl|rfl|rfl
    ·exact HX.out
    ·exact HY.out
    ·exact HM.out) HD.out);have cy3:=CY.out _ (F2.out.t F3.out);have CR:=κ (rem_any (x:=⟨some ⟨bx,ox,none⟩,bx,ox,cx,xs⟩) (m:=⟨some ⟨bm,om,none⟩,bm,om,cm,ms⟩) L0.out (by simp) (by simp) HX.out.nz HM.out.nz hx9 hml0 hm9 (by simp only[lenS];omega));go_wp2_with (go_at_call 64;refine(CR.out).mono ?_;rintro e w4 ⟨p4,q4,rfl,h4⟩;have H4:=κ h4;clear h4);show Leaves _ _ _ _ _ _ _;refine leaves_cons (f:=48) (args:= #[.pointer (some ⟨s,0,none⟩)]) (by simp) (by simp[go_sem]) ?_;have hst4:StkAt w4 s q4:=H4.out.2.2.2.1;refine(free_deferred s q4 .returning _ hst4).mono ?_;rintro e u' w10 ⟨rfl,rfl,hf10⟩;refine⟨_,results_tmp rfl _ _ _,?_⟩;exact rem_out H4.out hf10 (F2.out.t F3.out) (Nat.le_trans F2.out.size HS.out)
theorem exN_big(hx:PnE w ⟨some ⟨bx,ox,none⟩,bx,ox,cx,xs⟩)(hy:PnE w ⟨some ⟨by_,oy,none⟩,by_,oy,cy,ys⟩)(hm:PnE w ⟨some ⟨bm,om,none⟩,bm,om,cm,ms⟩)(hd:[(⟨some ⟨bx,ox,none⟩,bx,ox,cx,xs⟩:Pn),⟨some ⟨by_,oy,none⟩,by_,oy,cy,ys⟩,⟨some ⟨bm,om,none⟩,bm,om,cm,ms⟩].Pairwise PDj)(hg:Gl w)(hT:TabW w)(hx1:1<val 18446744073709551616 xs)(hm1:1<val 18446744073709551616 ms)(hx9:xs.length<=100)(hy2:2<=ys.length)(hy9:ys.length<=100)(hm9:ms.length<=60)(hY:val 18446744073709551616 ys=(Y:Int)):
 Calls Tryz.prog 39 #[.slice none 0 0,.pointer none,.slice (some ⟨bx,ox,none⟩) xs.length cx,.slice (some ⟨by_,oy,none⟩) ys.length cy,.slice (some ⟨bm,om,none⟩) ms.length cm,.bool false] w (RetPn (val 18446744073709551616 xs^Y%val 18446744073709551616 ms) w):=by
 obtain⟨m0,hm0e⟩: ∃m0,m0=ms.getD 0 0:=⟨_,rfl⟩;obtain⟨hml0,hm0⟩:=one_word hm1;have hmc:=hm.nm.le;have hmz:=hm.nm.max;unfold maxLen at hmz;simp only at hmc hmz;have CM:=κ (show∀W,Fr [] w W->W.cell? ⟨bm,om,none⟩=some (.int .u64 m0)from fun W f=>by have:=(hm.fr0 f).nm.2.2 hml0 0 hml0;rw[Nat.add_zero]at this;rw[hm0e];exact this);rw[<-hm0e]at hm0;obtain⟨x0,hx0e⟩: ∃x0,x0=xs.getD 0 0:=⟨_,rfl⟩;obtain⟨hxl0,hx0⟩:=one_word hx1;have hxc:=hx.nm.le;have hcx:=hx.nm.max;unfold maxLen at hcx;simp only at hxc hcx;have CX:=κ (show∀W,Fr [] w W->W.cell? ⟨bx,ox,none⟩=some (.int .u64 x0)from fun W f=>by have:=(hx.fr0 f).nm.2.2 hxl0 0 hxl0;rw[Nat.add_zero]at this;rw[hx0e];exact this);rw[<-hx0e]at hx0;have ex0:((xs.length:Int)==0)=false:=by rw[beq_eq_false_iff_ne];omega
 have hm0d:=hm.dg.getD (by omega) 0;simp only at hm0d;rw[<-hm0e]at hm0d;have hbit:=bit_one hm0d.1 hm0d.2;have hpar:val 18446744073709551616 ms%2=m0%2:=by rw[hm0e];exact(val_odd hml0).symm
 have hcy:=hy.nm.max;have hyc:=hy.nm.le;simp only at hcy hyc;unfold maxLen at hcy;have em0:((ms.length:Int) !=0)=true:=by rw[bne_iff_ne];omega
 have ey0:((ys.length:Int)==0)=false:=by rw[beq_eq_false_iff_ne];omega
 have ey1:((ys.length:Int)==1)=false:=by rw[beq_eq_false_iff_ne];omega
 have hyg:(1:Int)<(ys.length:Int):=by omega
 have HX:=κ hx;have HY:=κ hy;have HM:=κ hm;have HD:=κ hd;have HG:=κ hg;have HT:=κ hT;have HYV:=κ hY;have HX1:=κ hx1;have HM1:=κ hm1;have HPAR:=κ hpar;have HMB:=κ (words_BIG hm.dg (show ms.length<=1000000 by omega));have CMK:=κ (fun W=>make_any ms.length W (by omega) (by omega));have T1:True:=trivial;clear hm hm0e hm1 hx hx0e hx1 hy hd hg hT hY hpar hm0d;go_enter_defers Tryz.func39,Tryz.ntmps39;refine wp_mono ?_ bodyPostN_D
 go_upto_if 31 with(first
  |(go_at_call 37;clear T1;refine(alias_nil _ _ _ _).mono ?_;rintro e w1 ⟨rfl,f1⟩;have F1:=κ f1;clear f1)
  |(go_at_call 37;refine(alias_nil _ _ _ _).mono ?_;rintro e w2 ⟨rfl,f2⟩;have F2:=κ (F1.out.t f2);clear f2));have cm2:=CM.out _ F2.out;have cx2:=CX.out _ F2.out;go_upto_region 3 with fail;go_cut [40]from 32 to 40 (fun v wx=>v= .bool false/\w2=wx)
 case first=>
  by_cases h1:ms.length=1
  ·have h1b:((ms.length:Int)==1)=true:=by rw[beq_iff_eq];omega
   have h2b:(m0==1)=false:=by rw[beq_eq_false_iff_ne];exact hm0 h1
   have h3:(0:Int)<(ms.length:Int):=by omega
   clear h1 hm0 hx0 hbit;go_wp2_with fail;go_meet;exact⟨rfl,rfl⟩
  ·have h1b:((ms.length:Int)==1)=false:=by rw[beq_eq_false_iff_ne];omega
   clear h1 hm0 hx0 hbit;go_wp2_with fail;go_meet;exact⟨rfl,rfl⟩
 case rest=>
  obtain⟨rfl,rfl⟩:=hcut;go_upto_region 9 with fail;go_cut [61]from 53 to 61 (fun v wx=>v= .bool false/\w2=wx)
  case first=>
   by_cases h1:xs.length=1
   ·have h1b:((xs.length:Int)==1)=true:=by rw[beq_iff_eq];omega
    have h2b:(x0==1)=false:=by rw[beq_eq_false_iff_ne];exact hx0 h1
    have h3:(0:Int)<(xs.length:Int):=by omega
    clear h1 hm0 hx0 hbit;go_wp2_with fail;go_meet;exact⟨rfl,rfl⟩
   ·have h1b:((xs.length:Int)==1)=false:=by rw[beq_eq_false_iff_ne];omega
    clear h1 hm0 hx0 hbit;go_wp2_with fail;go_meet;exact⟨rfl,rfl⟩
  case rest=>
   obtain⟨rfl,rfl⟩:=hcut;clear hm0 hx0 cm2;go_upto_region 16 with(go_at_call 31;refine(getStackQ_any _).mono ?_;rintro e w3 ⟨s,rfl,hst,f3,hs⟩;have HST:=κ hst;have HS:=κ hs;have F3:=κ f3;clear hst hs f3)
   have L0:=κ (lv_enter HST.out (F2.out.t F3.out) (Nat.le_trans F2.out.size HS.out) HG.out (fun p hp=>by
    simp only[List.mem_cons,List.not_mem_nil,or_false]at hp;rcases hp with rfl|rfl|rfl
    ·exact HX.out
    ·exact HY.out
    ·exact HM.out) HD.out);go_upto_region 21 with(go_at_call 42;refine(CMK.out _).mono ?_;rintro e w4 ⟨bz,cz,rfl,hc1,hc2,row,hz,f4⟩;have L4:=κ (lv_made L0.out f4 hz row hc1 hc2 (by omega));have F4:=κ f4;have E4:=κ (exz_mk L4.out f4 hz hc1 HST.out F2.out F3.out HX.out HY.out HM.out HX1.out HM1.out hx9 hy2 hy9 hm9 HYV.out);have cm4:w4.cell? ⟨bm,om,none⟩=some (.int .u64 m0):=CM.out _ ((F2.out.t F3.out).t f4);clear row f4 hz);have hml:(0:Int)<(ms.length:Int):=by omega
   have HTW:=κ (show∀wx,Fc 51 (StS s none) w3 wx->TabW wx from fun wx hf=>HT.out.fr0 (Fc.fr_new' hf (F2.out.t F3.out) (fun b i hh=>by simp only[StS]at hh;have:=F2.out.size;have:=HS.out;omega)));by_cases hodd:m0%2=1
   ·rw[decide_eq_true hodd]at hbit
    have CO:=κ (E4.out.odd (by rw[HPAR.out];exact hodd));clear hodd;go_wp2_with (go_at_call 65;refine(CO.out).mono ?_;rintro e w5 ⟨p5,q5,rfl,h5⟩;have H5:=κ h5;clear h5);show Leaves _ _ _ _ _ _ _;refine leaves_cons (f:=48) (args:= #[.pointer (some ⟨s,0,none⟩)]) (by simp) (by simp[go_sem]) ?_;have hst5:StkAt w5 s q5:=H5.out.2.2.2.2.2.1;refine(free_deferred s q5 .returning _ hst5).mono ?_;rintro e u' w10 ⟨rfl,rfl,hf10⟩;refine⟨_,results_tmp rfl _ _ _,?_⟩;exact rs_out H5.out hf10 (F2.out.t F3.out) (Nat.le_trans F2.out.size HS.out)
   ·rw[decide_eq_false hodd]at hbit
    have HEV:=κ (show val 18446744073709551616 ms%2=0 by rw[HPAR.out];omega);have CI:=κ (isPow2_any (.slice (some ⟨bm,om,none⟩) ms.length cm) (val 18446744073709551616 ms) w4 ((HM.out.fr0 ((F2.out.t F3.out).t F4.out)).nm.sw HM.out.dg HM.out.nz) HMB.out (by have:=HM1.out;omega) (HT.out.fr0 ((F2.out.t F3.out).t F4.out)));clear hodd;by_cases hp2: ∃L:Nat,val 18446744073709551616 ms=2^L
    ·obtain⟨L,hL⟩:=hp2
     have HLV:=κ hL;clear hL
     go_wp2_with (first
      |(go_at_call 66;refine(CI.out).mono ?_;rintro e w5 ⟨t,ht,ht9,hp,f5⟩;obtain rfl:L=t:=tz_pow (by rw[<-HLV.out];exact ht);obtain⟨_,rfl⟩:=hp.resolve_right (fun hh=>hh.1 HLV.out);have C5:=κ ((E4.out.fr0 f5).pow HLV.out);clear ht ht9 hp f5)
      |(go_at_call 67;refine(C5.out).mono ?_;rintro e w6 ⟨p5,q5,rfl,h5⟩;have H5:=κ h5;clear h5));show Leaves _ _ _ _ _ _ _;refine leaves_cons (f:=48) (args:= #[.pointer (some ⟨s,0,none⟩)]) (by simp) (by simp[go_sem]) ?_;have hst5:StkAt w6 s q5:=H5.out.2.2.2.2.2.1;refine(free_deferred s q5 .returning _ hst5).mono ?_;rintro e u' w10 ⟨rfl,rfl,hf10⟩;refine⟨_,results_tmp rfl _ _ _,?_⟩;exact rs_out H5.out hf10 (F2.out.t F3.out) (Nat.le_trans F2.out.size HS.out)
    ·have HNP:=κ (show∀L:Nat,val 18446744073709551616 ms≠2^L from fun L h=>hp2 ⟨L,h⟩)
     clear hp2
     go_wp2_with (first
      |(go_at_call 66;refine(CI.out).mono ?_;rintro e w5 ⟨t,ht,ht9,hp,f5⟩;obtain⟨_,rfl⟩:=hp.resolve_left (fun hh=>HNP.out t hh.1);have C5:=κ (exz_even (E4.out.fr0 f5) HTW.out HEV.out HNP.out);clear ht ht9 hp f5)
      |(go_at_call 68;refine(C5.out).mono ?_;rintro e w6 ⟨p5,q5,rfl,h5⟩;have H5:=κ h5;clear h5));show Leaves _ _ _ _ _ _ _;refine leaves_cons (f:=48) (args:= #[.pointer (some ⟨s,0,none⟩)]) (by simp) (by simp[go_sem]) ?_;have hst5:StkAt w6 s q5:=H5.out.2.2.2.2.2.1;refine(free_deferred s q5 .returning _ hst5).mono ?_;rintro e u' w10 ⟨rfl,rfl,hf10⟩;refine⟨_,results_tmp rfl _ _ _,?_⟩;exact rs_out H5.out hf10 (F2.out.t F3.out) (Nat.le_trans F2.out.size HS.out)
end
end Go.Proofs.YthecibbmbnpegaaGreatDoor
namespace Go.Proofs.YthecibbmbnpegaaGreatDoor
open Go.Big Go.RowKit
theorem intBits_any{w:World}{p l c:Nat}{neg:Bool}{A:Option Addr}(h:IntB w p neg A l c):
 Calls Tryz.prog 24 #[.pointer (some ⟨p,0,none⟩)] w fun e w'=>e= .returned (.slice A l c)/\w=w':=by
 have c1:=h.cell1;clear h;go_enter Tryz.func24,Tryz.ntmps24;go_wp2_with fail;go_ret;exact⟨rfl,rfl⟩
theorem sign_pos{w:World}{p l c:Nat}{A:Option Addr}(h:IntB w p false A l c)(hl:0<l)(hl9:l<=1000000):
 Calls Tryz.prog 15 #[.pointer (some ⟨p,0,none⟩)] w fun e w'=>e= .returned (.int .i64 1)/\w=w':=by
 have c1:=h.cell1;have c0:=h.cell0;have hl0:((l:Int)==0)=false:=by rw[beq_eq_false_iff_ne];omega
 clear h;go_enter Tryz.func15,Tryz.ntmps15;go_wp2_with fail;go_ret;exact⟨rfl,rfl⟩
def WoRel(xs:List Int)(w0:World)(g:Nat)(v3 v9:Value)(wr:World):Prop:=
 ∃(v:Value) (i:Nat),v=v3/\g=xs.length-i/\v9= .int .i64 (i:Int)/\i<=xs.length/\AppZ .u64 36 w0 wr v (xs.take i)/\Fr [] w0 wr
theorem take_snoc{xs:List Int}{i:Nat}(h:i<xs.length):xs.take i++[xs.getD i 0]=xs.take (i+1):=by
 rw[Go.Big.getD_in h,<- List.take_succ_eq_append_getElem h]
theorem wordsOf_any{w:World}{p c:Nat}{neg:Bool}{A:Option Addr}(xs:List Int)(h:IntB w p neg A xs.length c)(hs:Sl .u64 w (.slice A xs.length c) xs)(hl:xs.length<=900000):
 Calls Tryz.prog 16 #[.pointer (some ⟨p,0,none⟩)] w (RetSl xs w):=by
 have CB:=κ (intBits_any h);obtain⟨A0,c0,e0,hlc,hm,hsrc⟩:=hs;injection e0 with e1 e2 e3;subst e1 e3;unfold maxLen at hm;have HS:=κ hsrc;obtain⟨m,hM⟩: ∃m,m=xs.length:=⟨_,rfl⟩;have HM:=κ hM;rw[<-hM]at hlc hl CB;clear h hsrc hM;go_enter Tryz.func16,Tryz.ntmps16;go_wp2_with (go_at_call 24;refine(CB.out).mono ?_;rintro e w1 ⟨rfl,rfl⟩);go_loopg [3,9] xs.length (WoRel xs w);case atStart=>exact⟨_,0,rfl,rfl,rfl,Nat.zero_le _,AppZ.nil _ _ _ _,Fr.refl _ _⟩
 case round=>
  obtain⟨v,i,rfl,rfl,rfl,hi,hz,hf⟩:=hrel;rw[<-HM.out]at hi;try rw[<-HM.out]
  have HZ:=κ hz;have HF:=κ hf;have hfs:=hf.size;by_cases h1:i<m
  ·obtain⟨b,off,rfl,hb,hs⟩:=HS.out (by rw[<-HM.out];omega)
   have hc:=(hs.fr hf (by simp)) i (by rw[<-HM.out];exact h1);obtain⟨x,hx⟩: ∃x,x=xs.getD i 0:=⟨_,rfl⟩;rw[<-hx]at hc;have HX:=κ hx;have HT:=κ (show(xs.take i).length<1000000 by rw[List.length_take];omega);have hI:(i:Int)<(m:Int):=by omega
   clear hx hs hz hf;go_wp2_with (refine wp_appZ rfl (.tmp 13) (.tmp 15) _ rfl .u64 36 8 ty_uints (by omega) v (xs.take i) x rfl HZ.out hfs rfl HT.out ?_;intro v' w6 hz6 hf6;have Z6:=κ hz6;have F6:=κ (hf6.fr HF.out);clear hz6 hf6);go_roundg (m-(i+1));case measure=>(have:=HM.out;omega)
   case rel=>
    refine⟨v',i+1,rfl,by rw[HM.out],by go_num,by rw[<-HM.out];omega,?_,F6.out⟩;have h:=Z6.out;rwa[HX.out,take_snoc (by rw[<-HM.out];exact h1)]at h
  ·have hI: ¬(i:Int)<(m:Int):=by omega
   have HI:=κ (show xs.take i=xs from List.take_of_length_le (by rw[<-HM.out];omega));clear hz hf;go_wp2_with fail;go_ret;refine⟨_,rfl,?_,HF.out⟩;have h:=HZ.out.sl;rwa[HI.out]at h
end Go.Proofs.YthecibbmbnpegaaGreatDoor
namespace Go.Big
theorem one_list{xs:List Int}(hd:DG 18446744073709551616 xs)(hz:NZ xs)(h:val 18446744073709551616 xs=1):xs=[1]:=
 eq_of_val hd (DG.cons (by omega) (by omega) (DG.nil _)) hz (.inr (by simp)) (by omega) (by rw[h,val_cons,val_nil];omega)
theorem isLen_some{X:Int}(h:0<=X): ∃L,IsLen X L:=by
 obtain⟨n,rfl⟩:=Int.eq_ofNat_of_zero_le h;by_cases h0:n=0
 ·subst h0;exact⟨0,.inl ⟨rfl,rfl⟩⟩
 ·refine⟨Nat.log2 n+1,.inr ⟨by omega,?_,?_⟩⟩
  ·have:=Nat.log2_self_le h0
   rw[Nat.add_sub_cancel];have e:((2^n.log2:Nat):Int)=(2:Int)^n.log2:=by simp
   rw[<-e];omega
  ·have:=Nat.lt_log2_self (n:=n)
   have e:((2^(n.log2+1):Nat):Int)=(2:Int)^(n.log2+1):=by simp
   rw[<-e];omega
theorem nil_list{xs:List Int}(hd:DG 18446744073709551616 xs)(hz:NZ xs)(h:val 18446744073709551616 xs=0):xs=[]:=
 eq_of_val hd (DG.nil _) hz NZ.nil (by omega) (by rw[h,val_nil])
end Go.Big
namespace Go.Proofs.YthecibbmbnpegaaGreatDoor
open Go.Big Go.RowKit
attribute [local go_sem ↓] Go.wp_at_zero Go.wp_at_succ
section
variable {w0 w w':World}{x y m p:Pn}{V:Int}{e:Ending}{Y:Nat}
theorem expNN_all(hx:PnE w x)(hy:PnE w y)(hm:PnE w m)(hd:[x,y,m].Pairwise PDj)(hg:Gl w)(hT:TabW w)(hx9:x.xs.length<=60)(hy9:y.xs.length<=100)(hm9:m.xs.length<=60)(hm0:0<m.n)(hY:y.n=(Y:Int)):
 Calls Tryz.prog 39 #[.slice none 0 0,.pointer none,.slice x.A x.xs.length x.c,.slice y.A y.xs.length y.c,.slice m.A m.xs.length m.c,.bool false] w (RetPn (x.n^Y%m.n) w):=by
 have hx0:=val_nonneg (B:=18446744073709551616) (by omega) hx.dg
 have am:=hm.nm.addr (by
  rcases Nat.eq_zero_or_pos m.xs.length with h0|h0
  ·unfold Pn.n at hm0
   rw[List.eq_nil_of_length_eq_zero h0,val_nil]at hm0;omega
  ·exact h0);obtain⟨Ax,bx,ox,cx,xs⟩:=x;obtain⟨Ay,by_,oy,cy,ys⟩:=y;obtain⟨Am,bm,om,cm,ms⟩:=m;unfold Pn.n at hm0 hY ⊢
 simp only at am hx0 hm0 hY hx9 hy9 hm9 ⊢
 subst am;by_cases hm1:val 18446744073709551616 ms=1
 ·obtain rfl:=one_list hm.dg hm.nz hm1
  rw[hm1,Int.emod_one];exact exN_m1 hm hx.nm.le hx.nm.max hy.nm.le hy.nm.max
 have hm2:1<val 18446744073709551616 ms:=by omega
 by_cases hy0:Y=0
 ·obtain rfl:=nil_list hy.dg hy.nz (by rw[hY,hy0];rfl)
  rw[hy0,Int.pow_zero,Int.emod_eq_of_lt (by omega) hm2];exact exN_y0 hm hm2 (by omega) hx.nm.le hx.nm.max hy.nm.max
 have hyl:1<=ys.length:=by
  rcases Nat.eq_zero_or_pos ys.length with h0|h0
  ·rw[List.eq_nil_of_length_eq_zero h0,val_nil]at hY;omega
  ·exact h0
 have hys:ys≠[]:=by rintro rfl;simp at hyl
 by_cases hxz:val 18446744073709551616 xs=0
 ·obtain rfl:=nil_list hx.dg hx.nz hxz
  rw[hxz,Int.zero_pow hy0,Int.zero_emod];exact exN_x0 hm hm2 (by omega) hyl hy.nm.le hx.nm.max hy.nm.max
 have ax:=hx.nm.addr (by
  rcases Nat.eq_zero_or_pos xs.length with h0|h0
  ·rw[List.eq_nil_of_length_eq_zero h0,val_nil]at hxz;omega
  ·exact h0);simp only at ax;subst ax;by_cases hx1:val 18446744073709551616 xs=1
 ·obtain rfl:=one_list hx.dg hx.nz hx1
  rw[hx1,Int.one_pow,Int.emod_eq_of_lt (by omega) hm2];exact exN_x1 hm hx hm2 (by omega) hyl hy.nm.le hy.nm.max
 have hx2:1<val 18446744073709551616 xs:=by omega
 have ay:=hy.nm.addr hyl;simp only at ay;subst ay;by_cases hy1:Y=1
 ·obtain rfl:=one_list hy.dg hy.nz (by rw[hY,hy1];rfl)
  rw[hy1,Int.pow_succ,Int.pow_zero,Int.one_mul];exact exN_y1 hx hy hm hd hg hx2 hm2 (by omega) (by omega)
 by_cases hyw:ys.length=1
 ·obtain⟨y0,rfl⟩:=List.length_eq_one_iff.1 hyw
  have hv:val 18446744073709551616 [y0]=y0:=by rw[val_cons,val_nil];omega
  rw[hv]at hY;subst hY;obtain⟨L,hL⟩:=isLen_some (X:=(Y:Int)) (by omega);have hlt:=(hy.dg (Y:Int) (by simp)).2;exact expNN_one hx hy hm hd hg hx2 (by omega) rfl (by omega) hL (isLen_le hL (by omega)) hm2 (by omega)
 ·exact exN_big hx hy hm hd hg hT hx2 hm2 (by omega) (by omega) hy9 hm9 hY
end
end Go.Proofs.YthecibbmbnpegaaGreatDoor
