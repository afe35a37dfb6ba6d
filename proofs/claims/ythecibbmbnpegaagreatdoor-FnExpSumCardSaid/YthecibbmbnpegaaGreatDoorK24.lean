/-
  Part 24 of the proof of the law FnExpSum: XLw, XExF, XgShN, XTz, XGlob, XBMulL, XBSqrL. Conditions: those of each statement.
-/
import Derived.Test.YthecibbmbnpegaaGreatDoorK23
import Derived.Laws.Bits64
import Derived.Deep.DeepCutAuto
import Derived.Deep.RegionWith
import Derived.Deep.QuietTactic
import Derived.BigQuiet
import Derived.Lib.TrailingZeros
import Derived.Laws.Bits64b
import Derived.Laws.BitsAllLaws
import Derived.Test.YthecibbmbnpegaaGreatDoorRows
import Derived.ProofKit
import Derived.LaidMore
import Derived.Lib.LaidTab
import Derived.Stop.LaidErr
set_option linter.unusedSimpArgs false
set_option linter.unusedVariables false
set_option maxRecDepth 100000
set_option maxHeartbeats 200000
namespace Go.Big
theorem len_mul{xs ys zs:List Int}(dx:DG 18446744073709551616 xs)(dy:DG 18446744073709551616 ys)(dz:DG 18446744073709551616 zs)(hz:NZ zs)(h:val 18446744073709551616 zs=val 18446744073709551616 xs*val 18446744073709551616 ys):zs.length<=xs.length+ys.length:=by
 refine len_le (by omega) dz hz ?_;have h1:=val_lt (B:=18446744073709551616) (by omega) dx;have h2:=val_lt (B:=18446744073709551616) (by omega) dy;have h3:=val_nonneg (B:=18446744073709551616) (by omega) dx;have h4:=val_nonneg (B:=18446744073709551616) (by omega) dy;have hP:=pow_pos_ (B:=18446744073709551616) (by omega) ys.length;rw[h,Int.pow_add];have k1:val 18446744073709551616 xs*val 18446744073709551616 ys<=val 18446744073709551616 xs*18446744073709551616^ys.length:=Int.mul_le_mul_of_nonneg_left (by omega) h3;have k2:val 18446744073709551616 xs*18446744073709551616^ys.length<18446744073709551616^xs.length*18446744073709551616^ys.length:=Int.mul_lt_mul_of_pos_right h1 hP;omega
theorem len_sm{xs ms:List Int}(dx:DG 18446744073709551616 xs)(dm:DG 18446744073709551616 ms)(hz:NZ xs)(h:val 18446744073709551616 xs<=val 18446744073709551616 ms):xs.length<=ms.length:=by
 refine len_le (by omega) dx hz ?_;have h1:=val_lt (B:=18446744073709551616) (by omega) dm;omega
end Go.Big
namespace Go.Proofs.YthecibbmbnpegaaGreatDoor
open Go.Big Go.RowKit
structure PnE(w:World)(p:Pn):Prop where
 nm:Nm w p.A p.b p.o p.c p.xs
 dg:DG 18446744073709551616 p.xs
 nz:NZ p.xs
theorem PnE.fr0{w w1:World}{p:Pn}(h:PnE w p)(f:Fr [] w w1):PnE w1 p:=⟨h.nm.fr0 f,h.dg,h.nz⟩
theorem lv_enter{w w1:World}{s:Nat}{R:List Pn}(hst:StkAt w1 s none)(f:Fr [] w w1)(hs:w.heap.size<=s)(hg:Gl w)(hR: ∀p,p∈R->PnE w p)(hd:R.Pairwise PDj):Lv s w1 none w1 none [] R:=by
 refine⟨hst,StkLe.refl _ _,Nat.le_refl _,by simp only[lenS];omega,Fc.refl _ _ _,hg.fr0 f,fun p hp=> ?_,hd,fun p hp=>by simp at hp⟩;have h:=hR p hp;have hm:=h.nm.max;unfold maxLen at hm;refine⟨h.nm.fr0 f,h.dg,by omega,fun i a1 a2 hh=> ?_⟩;have hlt:=h.nm.rcv.lt (by omega);simp only[StS]at hh;omega
def RetPn(V:Int)(w:World)(e:Ending)(w':World):Prop:= ∃p,e= .returned p.v/\PnE w' p/\p.n=V/\Fr [] w w'/\(p.c=0\/w.heap.size<=p.b)
theorem lv_made{s:Nat}{w0 w w':World}{q0 q:Option StkSt}{W R:List Pn}{b c m:Nat}(h:Lv s w0 q0 w q W R)(f:Fr [] w w')(hb:w.heap.size<=b)(hr:Row .u64 51 w' b (List.replicate c 0))(_:m<=c)(hc2:c<=m+4)(hm:m<=1000000):Lv s w0 q0 w' q (⟨some ⟨b,0,none⟩,b,0,c,[]⟩::W) R:=
 h.add f (pn_new (xs:=[]) h.st f hb hr (by simp) (Nat.zero_le _) (by simp) (by unfold maxLen;omega) (DG.nil _)) hb
theorem Lv.moveR{s:Nat}{w0 w:World}{q0 q:Option StkSt}{z:Pn}{W R:List Pn}(h:Lv s w0 q0 w q (z::W) R):Lv s w0 q0 w q W (z::R):=
 have hp:((z::W)++R).Perm (W++z::R):=List.perm_middle.symm
 ⟨h.st,h.le,h.l0,h.ln,h.fr,h.gl,fun r hr=>h.ok r ((hp.mem_iff).2 hr),(hp.pairwise_iff (fun h=>PDj.symm h)).1 h.dj,fun r hr=>h.nw r (List.mem_cons_of_mem _ hr)⟩
def NwP(N s:Nat)(q:Option StkSt)(p:Pn):Prop:=p.c=0\/(N<=p.b/\NewS s q p.b)
def RetS(s:Nat)(q:Option StkSt)(V:Int)(w:World)(e:Ending)(w':World):Prop:=
 ∃p q',e= .returned p.v/\PnE w' p/\p.n=V/\p.c<=9223372036854775807/\w.heap.size<=p.b/\NewS s q' p.b/\StkAt w' s q'/\StkLe w.heap.size q q'/\lenS q'=lenS q/\Fc 51 (StS s q) w w'
theorem RetS.mk{s:Nat}{w0 w':World}{q0 q':Option StkSt}{p:Pn}{W R:List Pn}{V:Int}(h:Lv s w0 q0 w' q' (p::W) R)(hz:NZ p.xs)(hv:p.n=V)(hl:lenS q'=lenS q0)(hp:NwP w0.heap.size s q' p):RetS s q0 V w0 (.returned p.v) w':=by
 have ho:=h.ok p (by simp);have hs:=h.fr.size;by_cases hc:p.c=0
 ·have hx:p.xs=[]:=List.eq_nil_of_length_eq_zero (by have:=ho.nm.le;omega)
  refine⟨⟨p.A,w'.heap.size,0,p.c,p.xs⟩,q',rfl,⟨?_,ho.dg,hz⟩,hv,ho.c9,hs,NewS.of h.st (Nat.le_refl _),h.st,h.le,hl,h.fr⟩;simp only;rw[hx];exact Nm.nil ⟨ho.nm.max,.inl hc⟩
 ·have hp:=hp.resolve_left hc
  exact⟨p,q',rfl,⟨ho.nm,ho.dg,hz⟩,hv,ho.c9,hp.1,hp.2,h.st,h.le,hl,h.fr⟩
theorem lv_here{s:Nat}{w:World}{q:Option StkSt}{R:List Pn}(hst:StkAt w s q)(hln:lenS q<=90000000000)(hg:Gl w)(hR: ∀p,p∈R->PnOk s q w p)(hd:R.Pairwise PDj):Lv s w q w q [] R:=
 ⟨hst,StkLe.refl _ _,Nat.le_refl _,hln,Fc.refl _ _ _,hg,fun p hp=>hR p hp,hd,fun p hp=>by simp at hp⟩
theorem Lv.here{s:Nat}{w0 w:World}{q0 q:Option StkSt}{W R:List Pn}(h:Lv s w0 q0 w q W R):Lv s w q w q [] (W++R):=
 lv_here h.st h.ln h.gl h.ok h.dj
def FreeS(q:Option StkSt)(b i:Nat):Prop:= ∃p,q=some p/\b=p.si
theorem free_fin{w:World}{s:Nat}{q:StkSt}(h:StkAt w s (some q))(w':World)(v:Value)(hw:w'=w.setCell ⟨q.si,0,none⟩ v):Fc 51 (FreeS (some q)) w w':=by
 obtain⟨_,h2⟩:=h;have hrn:=fun b L (hr:Row .u64 51 w b L)=>h2.row_ne hr
 have hf:Fr [q.si] w w':=by rw[hw];apply Fr.set _ (.inl (by simp));exact Fr.refl _ _
 refine Fc.of_fr hf (fun b hb _ i=> ?_) (fun b hb L hr=> ?_)
 ·simp at hb;exact⟨q,rfl,hb⟩
 ·simp at hb;exact hrn _ _ hr hb
theorem ifree_any(s:Nat)(q:StkSt)(w:World)(h:StkAt w s (some q)):Calls Tryz.prog 76 #[.pointer (some ⟨q.si,0,none⟩)] w fun e w'=>e= .returned (.tuple #[])/\Fc 51 (FreeS (some q)) w w':=by
 have FIN:=κ (free_fin h);obtain⟨si,g,len,cap⟩:=q;obtain⟨h1,h2,_,h3,h4⟩:=h;have c2:=cell_of1 h2;have z2:=frozen_of1 h2;unfold maxLen at h4;simp only at c2 z2 h3 h4 FIN;clear h1 h2;go_enter Tryz.func76,Tryz.ntmps76;go_wp2_with fail;first|go_end0|refine bodyPost_ret (results_none rfl _ _ _) rfl ?_
 exact⟨rfl,FIN.out _ _ rfl⟩
theorem free_deferred(s:Nat)(q:Option StkSt)(u:FrameMode)(w:World)(h:StkAt w s q):CallsD Tryz.prog 48 #[.pointer (some ⟨s,0,none⟩)] u w fun e u' w'=>u'=u/\e= .returned (.tuple #[])/\Fc 51 (FreeS q) w w':=by
 cases q with
 |none=>
  have c:=cell_of1 h;clear h;go_enter_d Tryz.func48,Tryz.ntmps48;go_wp2_with fail;first|go_end0|refine bodyPost_ret (results_none rfl _ _ _) rfl ?_
  exact⟨rfl,Fc.refl _ _ _⟩
 |some q=>
  have C:=κ (ifree_any s q w h);have c:=cell_of1 h.1;clear h;go_enter_d Tryz.func48,Tryz.ntmps48;go_wp2_with (go_at_call 76;refine(Hid.out C).mono ?_;rintro e w1 ⟨rfl,h2⟩;have H2:=κ h2;clear h2);first|go_end0|refine bodyPost_ret (results_none rfl _ _ _) rfl ?_
  exact⟨rfl,H2.out⟩
end Go.Proofs.YthecibbmbnpegaaGreatDoor
section
namespace Go.Big
open Go.RowKit
theorem spl_front{c q:Nat}{cs:List Int}(h:q+cs.length<=c):spl (spl (List.replicate c 0) q cs) 0 (List.replicate q 0)=spl (List.replicate c 0) 0 (List.replicate q 0++cs):=by
 unfold spl;simp only[List.take_replicate,List.drop_replicate,List.length_replicate,List.take_zero,List.nil_append,Nat.zero_add,List.length_append,List.append_assoc];simp only[Nat.zero_min,List.replicate_zero,List.nil_append,List.append_assoc];congr 1;rw[Nat.min_eq_left (show q<=c by omega),List.drop_append,List.length_replicate,Nat.sub_self,List.drop_zero,List.drop_eq_nil_of_le (by simp)];simp
theorem row_top{k:IntKind}{T:TypeId}{W:World}{z c q m:Nat}{zs:List Int}(h:Row k T W z (spl (List.replicate c 0) q zs))(hl:zs.length=m)(hc:m+q+1<=c)(x:Int):
 Row k T (W.setCell ⟨z,m+q,none⟩ (.int k x)) z (spl (List.replicate c 0) q (zs++[x])):=by
 have:=h.set (m+q) x;rw[Nat.add_comm m q,<- hl,spl_set_end (by simp;omega)]at this;rw[Nat.add_comm m q,<- hl];exact this
end Go.Big
namespace Go.Proofs.YthecibbmbnpegaaGreatDoor
open Go.Big Go.RowKit
theorem alias_nil(A:Option Addr)(n c:Nat)(w:World):Calls Tryz.prog 37 #[.slice none 0 0,.slice A n c] w fun e w'=>e= .returned (.bool false)/\Fr [] w w':=by
 go_enter Tryz.func37,Tryz.ntmps37;go_wp2_with fail;go_quiet (fail);go_wp2_with fail;go_ret;exact⟨rfl,(Fr.refl _ _).drewN _⟩
end Go.Proofs.YthecibbmbnpegaaGreatDoor
end
section
namespace Go.Proofs.YthecibbmbnpegaaGreatDoor
open Go.Big Go.RowKit
theorem div_drop{B:Int}{xs:List Int}{q:Nat}(hB:0<B)(hd:DG B xs)(hq:q<=xs.length):val B xs/B^q=val B (xs.drop q):=by
 have h1:=val_nonneg hB (hd.take q);have h2:=val_lt hB (hd.take q);have hp:=pow_pos_ hB q;rw[List.length_take,Nat.min_eq_left hq]at h2;rw[val_split B xs q hq,Int.add_mul_ediv_left _ _ (by omega),Int.ediv_eq_zero_of_lt h1 h2,Int.zero_add]
theorem shr_zero{B:Int}{xs:List Int}{s a:Nat}(hB:B=2^a)(hd:DG B xs)(hs:a*xs.length<=s):val B xs/2^s=0:=by
 have hB0:0<B:=by rw[hB];exact pow_pos_ (by omega) a
 have h1:=val_nonneg hB0 hd;have h2:=val_lt hB0 hd;have h3:=pow_le_pow_ (B:=2) (by omega) hs;rw[Int.pow_mul,<- hB]at h3;exact Int.ediv_eq_zero_of_lt h1 (by omega)
theorem rsh_val{z c Y:Int}{r:Nat}(hr:r<64)(h0:0<=c)(h1:c<18446744073709551616)(h:z*18446744073709551616+c=Y*2^(64-r)):z=Y/2^r:=by
 have e:(18446744073709551616:Int)=2^r*2^(64-r):=by rw[<-Int.pow_add,show r+(64-r)=64 by omega];rfl
 have e2:z=(z*18446744073709551616+c)/18446744073709551616:=by
  rw[Int.add_comm,Int.add_mul_ediv_right _ _ (by omega),Int.ediv_eq_zero_of_lt h0 h1,Int.zero_add]
 rw[e2,h,e];exact Int.mul_ediv_mul_of_pos_left _ _ (pow_pos_ (by omega) _)
end Go.Proofs.YthecibbmbnpegaaGreatDoor
end
namespace Go.Big
def HasTz(X:Int)(t:Nat):Prop:= ∃m:Int,0<=m/\X=2^t*(2*m+1)
theorem HasTz.bit{X:Int}{t:Nat}(h:HasTz X t):X/2^t%2=1/\(∀k,k<t->X/2^k%2=0)/\0<X:=by
 obtain⟨m,hm,rfl⟩:=h;have hp:=pow_pos_ (B:=2) (by omega) t;refine⟨?_,fun k hk=> ?_,Int.mul_pos hp (by omega)⟩
 ·rw[Int.mul_ediv_cancel_left _ (by omega)];omega
 ·obtain⟨d,rfl⟩: ∃d,t=k+(d+1):=⟨t-k-1,by omega⟩
  have hk:=pow_pos_ (B:=2) (by omega) k;rw[Int.pow_add,Int.mul_assoc,Int.mul_ediv_cancel_left _ (by omega),Int.pow_succ,Int.mul_comm (2^d) 2,Int.mul_assoc];exact Int.mul_emod_right _ _
theorem HasTz.words{xs:List Int}{i:Nat}{y:Int}{c:Nat}(hd:DG 18446744073709551616 xs)(hi:i<xs.length)(hz: ∀k,k<i->xs.getD k 0=0)(hy:y=xs.getD i 0)(hc:HasTz y c)(hc64:c<64):HasTz (val 18446744073709551616 xs) (64*i+c):=by
 obtain⟨m,hm,e⟩:=hc;have e1:=val_split 18446744073709551616 xs i (by omega)
 have e2:val 18446744073709551616 (xs.take i)=0:=val_zeros _ (fun x hx=>by
  obtain⟨n,hn,rfl⟩:=List.mem_iff_getElem.1 hx;rw[List.length_take]at hn;have:=hz n (by omega);rw[getD_in (by omega)]at this;simpa using this)
 have e3:val 18446744073709551616 (xs.drop i)=y+18446744073709551616*val 18446744073709551616 (xs.drop (i+1)):=by
  rw[List.drop_eq_getElem_cons hi,val_cons,hy,getD_in hi]
 have h0:=val_nonneg (by omega) (hd.drop (i+1));generalize val 18446744073709551616 (xs.drop (i+1))=R at*;refine⟨m+2^(63-c)*R,?_,?_⟩
 ·have:=Int.mul_nonneg (Int.le_of_lt (pow_pos_ (B:=2) (by omega) (63-c))) h0
  omega
 ·rw[e1,e2,e3,e,Int.pow_add,Int.pow_mul,show(2:Int)^64=18446744073709551616 from rfl]
  have e4:(18446744073709551616:Int)=2^c*(2*2^(63-c)):=by
   rw[<-Int.pow_succ',<- Int.pow_add,show c+(63-c+1)=64 by omega];rfl
  have e5:18446744073709551616*R=2^c*(2*2^(63-c))*R:=by rw[<-e4]
  rw[e5];grind
theorem HasTz.word{x:Nat}(h0:x≠0)(h:x<18446744073709551616):HasTz (x:Int) (Lib.ctz 64 x)/\Lib.ctz 64 x<64:=by
 obtain⟨m,e,hl⟩:=Lib.ctzFrom_spec 64 x (by omega) (by simpa using h);have ec:Lib.ctz 64 x=Lib.ctzFrom 64 x:=by unfold Lib.ctz;rw[if_neg h0]
 rw[ec];refine⟨⟨(m:Int),by omega,?_⟩,hl⟩;have:=congrArg (fun n:Nat=>(n:Int)) e;simpa using this
theorem and_pred{c m:Nat}:(2^c*(2*m+1)) &&& (2^c*(2*m+1)-1)=2^c*(2*m):=by
 have hp:=Nat.two_pow_pos c
 have e:2^c*(2*m+1)-1=2^c*(2*m)+(2^c-1):=by
  rw[Nat.mul_add,Nat.mul_one];omega
 rw[e];apply Nat.eq_of_testBit_eq;intro j;have a1:=Nat.testBit_two_pow_mul_add (2*m+1) (b:=0) hp j;have a2:=Nat.testBit_two_pow_mul_add (2*m) (b:=2^c-1) (show 2^c-1<2^c by omega) j;have a3:=Nat.testBit_two_pow_mul_add (2*m) (b:=0) hp j;rw[Nat.add_zero]at a1 a3;rw[Nat.testBit_and,a1,a2,a3];by_cases hj:j<c
 ·simp[hj]
 ·rw[if_neg hj,if_neg hj,if_neg hj]
  rcases Nat.eq_zero_or_pos (j-c)with h|h
  ·rw[h];simp[Nat.testBit_zero]
  ·obtain⟨k,hk⟩: ∃k,j-c=k+1:=⟨j-c-1,by omega⟩
   rw[hk,Nat.testBit_succ,Nat.testBit_succ];rw[show(2*m+1)/2=m by omega,show 2*m/2=m by omega];simp
end Go.Big
namespace Go.Proofs.YthecibbmbnpegaaGreatDoor
open Go.Big Go.RowKit
def TabW(w:World):Prop:= ∀j,j<64->w.cell? ⟨5,j,none⟩=some (.int .u8 (Lib.deBruijn64tab.getD j 0))
theorem TabW.fr0{w w':World}(h:TabW w)(hf:Fr [] w w'):TabW w':=fun j hj=>hf.cell_some (h j hj) (by simp)
theorem tz64_key(x a:Nat)(hx:x<18446744073709551616)(hx0:x≠0)(hlow:x &&& (18446744073709551616-x)=a):
 IntKind.u64.wrap (bits BinOp.and IntKind.u64 (x:Int) (IntKind.u64.wrap (-(x:Int)))*285870213051353865)/288230376151711744=((a*285870213051353865%18446744073709551616/288230376151711744:Nat):Int):=by
 have e1:IntKind.u64.wrap (-(x:Int))=((18446744073709551616-x:Nat):Int):=by rw[IntKind.wrap_u64];omega
 rw[e1,bits_and_u64_nat x _ hx (by omega),hlow,IntKind.wrap_u64];omega
theorem tz64_core(x k idx:Nat)(w:World)(hx0:((x:Int)==0)=false)
 (key:IntKind.u64.wrap (bits BinOp.and IntKind.u64 (x:Int) (IntKind.u64.wrap (-(x:Int)))*285870213051353865)/288230376151711744=(idx:Int))
 (hi:idx<64)(hk:k<64)(hcell:w.cell? ⟨5,idx,none⟩=some (.int .u8 k)):
 Calls Tryz.prog 128 #[.int .u64 x] w fun e w'=>e= .returned (.int .i64 k)/\w=w':=by
 go_enter Tryz.func128,Tryz.ntmps128;go_wp2_with (simp only[key]);go_ret;exact⟨rfl,rfl⟩
theorem tz_any(x:Nat)(w:World)(hx0:x≠0)(hx:x<18446744073709551616)(hT:TabW w):
 Calls Tryz.prog 95 #[.int .u64 (x:Int)] w fun e w'=>e= .returned (.int .i64 (Lib.ctz 64 x:Nat))/\w=w':=by
 obtain⟨hlow,hk⟩:=Lib.lowest_bit 64 x hx0 hx;obtain⟨hi,htab⟩:=Lib.deBruijn64_at _ hk;have hcell:=hT _ hi;rw[htab]at hcell;have C:=κ (tz64_core x _ _ w (by simp;omega) (tz64_key x _ hx hx0 hlow) hi hk hcell);have hw:IntKind.u64.wrap (x:Int)=(x:Int):=by rw[IntKind.wrap_u64];omega
 clear hlow hk hi htab hcell hT;go_enter Tryz.func95,Tryz.ntmps95;go_wp2_with (go_at_call 128;refine(Hid.out C).mono ?_;rintro e w' ⟨rfl,rfl⟩);go_ret;exact⟨rfl,rfl⟩
end Go.Proofs.YthecibbmbnpegaaGreatDoor
namespace Go.Big
open Go.ChangeShapes Go.WideShapes Go.ChangeAt
theorem int_of_head{P:Program}{W:World}{name:String}{k:IntKind}{n:Int}{rest:List (String×DataW Unit)}{g:Nat}{t:TypeId}
 (hg:P.globalNamed name=some g)(hty:(P.globals[g]?).map (·.type)=some t)(ht:P.underlying t=some (.int k))(h:laidMet P ((name,.lit (.int k n))::rest) W):W.cell? ⟨g,0,none⟩=some (.int k n):=by
 obtain⟨ps,⟨g',t',cs,fuel,p,q,hg',ht',hvar,hd,_,_⟩,_⟩:=h;obtain rfl:=Option.some.inj (hg.symm.trans hg');obtain rfl:=Option.some.inj (hty.symm.trans ht');obtain⟨m,hc,e,_⟩:=DataW.trod_int ht hd;have:=World.var?_cell hg hvar 0;rw[Array.eq_one_of_toList hc]at this;injection e with e;injection e with e;injection e with e1 e2;subst e2;simpa using this
theorem vars_len4{H:Type}{enc:TypeId×Value->H}{P:Program}{w:World}{sp:Nat->Bool}{n0 n1 n2 n3:String}{gs:List (DataW H)}{ps:List MemPlace}(h:DataW.TrodVars enc P w sp [n0,n1,n2,n3] gs ps): ∃g1 g2 g3 g4,gs=[g1,g2,g3,g4]:=by
 cases gs with
 |nil=>exact h.elim
 |cons g1 gs1=>
 obtain⟨_,_,_,_,_,q1,_,_,_,_,h1,_⟩:=h;cases gs1 with
 |nil=>exact h1.elim
 |cons g2 gs2=>
 obtain⟨_,_,_,_,_,q2,_,_,_,_,h2,_⟩:=h1;cases gs2 with
 |nil=>exact h2.elim
 |cons g3 gs3=>
 obtain⟨_,_,_,_,_,q3,_,_,_,_,h3,_⟩:=h2;cases gs3 with
 |nil=>exact h3.elim
 |cons g4 gs4=>
 obtain⟨_,_,_,_,_,q4,_,_,_,_,h4,_⟩:=h3;cases gs4 with
 |nil=>exact⟨g1,g2,g3,g4,rfl⟩
 |cons _ _=>exact h4.elim
end Go.Big
namespace Go.Proofs.YthecibbmbnpegaaGreatDoor
open Go.Big Go.RowKit
def tabD64:List Int:=[0,1,56,2,57,49,28,3,61,58,42,50,38,29,17,4,62,47,59,36,45,43,51,22,53,39,33,30,24,18,12,5,63,55,48,27,60,41,37,16,46,35,44,21,52,32,23,11,54,26,40,15,34,20,31,10,25,14,19,9,13,8,7,6]
theorem is_any(v va:Value)(xs:List Int)(n:Int)(w:World)(hx:Sl .u64 w v xs)(hd:DG 18446744073709551616 xs)(hl:xs.length<=1000000)(ha:SN w va n)(h:val 18446744073709551616 xs=n):
 Calls Tryz.prog 11 #[v,va] w fun e w'=>e= .returned (.bool true)/\Fr [] w w':=by
 have C1:=κ (of_any v xs w hx hd hl);rw[h]at C1;have HA:=κ ha;clear hx hd ha h;go_enter Tryz.func11,Tryz.ntmps11
 go_wp2_with (first
  |(go_at_call 6;refine(Hid.out C1).mono ?_;rintro e w1 ⟨v1,rfl,sn1,f1⟩)
  |(go_at_call 22;refine(cmp_same _ _ n _ sn1 (HA.out.fr0 f1)).mono ?_;rintro e w2 ⟨rfl,f2⟩));go_ret;exact⟨rfl,f1.t f2⟩
theorem prod_BIG{xs ys:List Int}(hd:DG 18446744073709551616 xs)(hd':DG 18446744073709551616 ys)(hl:xs.length<=100000)(hl':ys.length<=100000):val 18446744073709551616 xs*val 18446744073709551616 ys<BIG:=by
 have h1:=val_lt_of_len (by omega) hd hl;have h2:=val_lt_of_len (by omega) hd' hl';have n1:=val_nonneg (by omega) hd;have n2:=val_nonneg (by omega) hd';have h3:val 18446744073709551616 xs*val 18446744073709551616 ys<=(18446744073709551616^100000-1)*(18446744073709551616^100000-1):=Int.mul_le_mul (by omega) (by omega) n2 (by have:=pow_pos_ (B:=18446744073709551616) (by omega) 100000;omega);have e:(18446744073709551616:Int)^200000=18446744073709551616^100000*18446744073709551616^100000:=by rw[<-Int.pow_add]
 have hp:=pow_pos_ (B:=18446744073709551616) (by omega) 100000;generalize(18446744073709551616:Int)^100000=Q at*;refine lt_BIG64 200000 ?_ (by omega);rw[e];have:(Q-1)*(Q-1)=Q*Q-2*Q+1:=by grind
 omega
end Go.Proofs.YthecibbmbnpegaaGreatDoor
namespace Go.Big
open Go.RowKit
theorem Fc.fr_new'{T:TypeId}{S:Nat->Nat->Prop}{w w1 w2:World}(h:Fc T S w1 w2)(hf:Fr [] w w1)(hS: ∀b i,S b i->w.heap.size<=b):Fr [] w w2:=
 ⟨h.os.trans hf.os,h.tape.trans hf.tape,h.output.trans hf.output,Nat.le_trans hf.size h.size,fun b hb hn=>(h.block b (Nat.lt_of_lt_of_le hb hf.size) (fun i hi=>by have:=hS b i hi;omega)).trans (hf.block b hb hn)⟩
end Go.Big
namespace Go.Proofs.YthecibbmbnpegaaGreatDoor
open Go.Big Go.RowKit
theorem getStackQ_any(w:World):Calls Tryz.prog 31 #[] w fun e w'=> ∃s,e= .returned (.pointer (some ⟨s,0,none⟩))/\StkAt w' s none/\Fr [] w w'/\w.heap.size<=s:=by
 go_enter Tryz.func31,Tryz.ntmps31;go_wp2_with fail;go_ret;exact⟨w.heap.size,rfl,heap_alloc_new w _,(Fr.refl _ _).alloc _,Nat.le_refl _⟩
end Go.Proofs.YthecibbmbnpegaaGreatDoor
