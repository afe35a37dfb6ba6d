/-
  Part 43 of the proof of the law FnExpSum: XLh. Conditions: those of each statement.
-/
import Derived.Test.YthecibbmbnpegaaGreatDoorK42
import Derived.Laws.Bits64
import Derived.Deep.DeepCutAuto
import Derived.Deep.RegionWith
set_option linter.unusedSimpArgs false
set_option linter.unusedVariables false
set_option maxRecDepth 100000
set_option maxHeartbeats 4000000
namespace Go.Proofs.YthecibbmbnpegaaGreatDoor
open Go.Big Go.RowKit
attribute [local go_sem ↓] Go.wp_at_zero Go.wp_at_succ
theorem PutI.pt{w0 w':World}{W:List In}{z:In}{V:Int}{e:Ending}(h:e= .returned z.pt/\PutI w0 W z V w'): ∃z':In,e= .returned (.pointer (some ⟨z'.p,0,none⟩))/\z'.v=V/\Li w0 w' (z'::W):=by
 obtain⟨rfl,z',h1,h2,h3⟩:=h;exact⟨z',by unfold In.pt;rw[h1],h2,h3⟩
def LgC(w0:World)(D:List In)(a b M:Int)(vq vr s11 s12 s13 s14:Value)(wx:World):Prop:=
 ∃(e:Int) (A B U V q r:In),s11= .pointer (some ⟨A.p,0,none⟩)/\s12= .pointer (some ⟨B.p,0,none⟩)/\s13= .pointer (some ⟨U.p,0,none⟩)/\s14= .pointer (some ⟨V.p,0,none⟩)/\vq= .pointer (some ⟨q.p,0,none⟩)/\vr= .pointer (some ⟨r.p,0,none⟩)/\LgS w0 D a b M e A B U V q r wx
theorem lg_first{w0 w6 w7:World}{D:List In}{a b M:Int}{A B U V q r:In}(h:Li w0 w6 (A::B::U::V::q::r::D))(f:Fr [] w6 w7)(hA:A.v=a)(hB:B.v=b)(hU:U.v=1)(hV:V.v=0)(ha:0<a)(hb:0<b)(haM:a<=M)(hbM:b<=M):
 (B.v<=A.v->LgS w0 D a b M (-1) A B U V q r w7)/\(A.v<B.v->LgS w0 D a b M 1 B A V U q r w7):=by
 have h7:=h.fr0 f;refine⟨fun hle=>⟨h7,?_,by omega,hbM⟩,fun hlt=>⟨h7.perm ?_,?_,by omega,hbM⟩⟩
 ·rw[hA,hB,hU,hV];exact LeI.start1 hb (by omega)
 ·exact(List.Perm.swap B A _).trans ((List.Perm.swap V U (q::r::D)).cons A |>.cons B)
 ·rw[hA,hB,hU,hV];exact LeI.start2 (by omega) (by omega) hb
theorem LgS.fr0{w0 w w1:World}{D:List In}{a b M e:Int}{A B U V q r:In}(h:LgS w0 D a b M e A B U V q r w)(f:Fr [] w w1):LgS w0 D a b M e A B U V q r w1:=⟨h.li.fr0 f,h.inv,h.bd,h.bb⟩
def LgR(w0:World)(D:List In)(a b M:Int)(pq g:Nat)(s11 s12 s13 s14 s17 _s18 _s19 _s20 _s21 _s22:Value)(wx:World):Prop:=
 ∃(e:Int) (A B U V q r:In),s11= .pointer (some ⟨A.p,0,none⟩)/\s12= .pointer (some ⟨B.p,0,none⟩)/\s13= .pointer (some ⟨U.p,0,none⟩)/\s14= .pointer (some ⟨V.p,0,none⟩)/\s17= .pointer (some ⟨r.p,0,none⟩)/\q.p=pq/\g=(A.v+B.v).toNat/\LgS w0 D a b M e A B U V q r wx
theorem In.posl{w:World}{x:In}(h:InOk w x)(hv:0<=x.v)(hl:0<x.xs.length):0<x.v:=by
 rcases Int.lt_or_le 0 x.v with h0|h0
 ·exact h0
 ·have hz:x.v=0:=by omega
  have h1:=val_pos (B:=18446744073709551616) (by omega) h.dg h.nz (by intro e;rw[e]at hl;simp at hl);have h2:=pow_pos_ (B:=18446744073709551616) (by omega) (x.xs.length-1);unfold In.v sg at hz;split at hz<;>omega
theorem lg_two{w0 w1:World}{D:List In}{a b M e:Int}{A B U V q r:In}{u0 u1 v0 v1:Int}{ev:Bool}(h:LgS w0 D a b M e A B U V q r w1)(hM:M<18446744073709551616^78)(L:LeM A.v B.v u0 u1 v0 v1 (if ev then 1 else -1))(hu0:0<=u0/\u0<18446744073709551616)(hu1:0<=u1/\u1<18446744073709551616)(hv0:0<=v0/\v0<18446744073709551616)(hv1:0<=v1/\v1<18446744073709551616)(hv:v0≠0)(hB:0<B.v):
 Calls Tryz.prog 121 #[.pointer (some ⟨A.p,0,none⟩),.pointer (some ⟨B.p,0,none⟩),.pointer (some ⟨q.p,0,none⟩),.pointer (some ⟨r.p,0,none⟩),.int .u64 u0,.int .u64 u1,.int .u64 v0,.int .u64 v1,.bool ev] w1 fun en w2=>en= .returned (.tuple #[])/\
  Calls Tryz.prog 121 #[.pointer (some ⟨U.p,0,none⟩),.pointer (some ⟨V.p,0,none⟩),.pointer (some ⟨q.p,0,none⟩),.pointer (some ⟨r.p,0,none⟩),.int .u64 u0,.int .u64 u1,.int .u64 v0,.int .u64 v1,.bool ev] w2 fun en w3=>en= .returned (.tuple #[])/\ ∃g,g<(A.v+B.v).toNat/\ ∀s18 s19 s20 s21 s22,LgR w0 D a b M q.p g (.pointer (some ⟨A.p,0,none⟩)) (.pointer (some ⟨B.p,0,none⟩)) (.pointer (some ⟨U.p,0,none⟩)) (.pointer (some ⟨V.p,0,none⟩)) (.pointer (some ⟨r.p,0,none⟩)) s18 s19 s20 s21 s22 w3:=by
 refine(lg_mat h hM L hu0 hu1 hv0 hv1).mono ?_;rintro en w2 ⟨rfl,h2⟩;refine⟨rfl,h2.mono ?_⟩;rintro en w3 ⟨rfl,A',B',U',V',q',r',e',e1,e2,e3,e4,e5,e6,hS,hm⟩;have hm:=hm (by omega) hB;have h1:=hS.inv.a0;have h2:=hS.inv.b0;exact⟨rfl,(A'.v+B'.v).toNat,by omega,fun _ _ _ _ _=>⟨e',A',B',U',V',q',r',by rw[e1],by rw[e2],by rw[e3],by rw[e4],by rw[e6],e5,rfl,hS⟩⟩
def LgW(w0:World)(D:List In)(a b M:Int)(s11 s12 s13 s14 s17:Value)(wx:World):Prop:=
 ∃(e:Int) (A B U V q r:In),s11= .pointer (some ⟨A.p,0,none⟩)/\s12= .pointer (some ⟨B.p,0,none⟩)/\s13= .pointer (some ⟨U.p,0,none⟩)/\s14= .pointer (some ⟨V.p,0,none⟩)/\s17= .pointer (some ⟨r.p,0,none⟩)/\LgS w0 D a b M e A B U V q r wx/\A.xs.length<=1/\B.xs.length<=1
def LgF(w0:World)(D:List In)(a b:Int)(s11 s13:Value)(wx:World):Prop:=
 ∃(A U:In) (W:List In) (V e:Int),s11= .pointer (some ⟨A.p,0,none⟩)/\s13= .pointer (some ⟨U.p,0,none⟩)/\Li w0 wx (A::U::(W++D))/\LeI a b A.v 0 U.v V e/\U.xs.length<=78
theorem LgS.fin{w0 w:World}{D:List In}{a b M e:Int}{A B U V q r:In}(h:LgS w0 D a b M e A B U V q r w)(hM:M<18446744073709551616^78)(hB:B.xs.length=0):LgF w0 D a b (.pointer (some ⟨A.p,0,none⟩)) (.pointer (some ⟨U.p,0,none⟩)) w:=by
 have hb:B.v=0:=by
  unfold In.v;rw[List.eq_nil_of_length_eq_zero hB,val_nil];unfold sg;split<;>omega
 have I:=h.inv;rw[hb]at I;have p:(A::B::U::V::q::r::D).Perm (A::U::([B,V,q,r]++D)):=(List.Perm.swap U B (V::q::r::D)).cons A;exact⟨A,U,[B,V,q,r],V.v,e,rfl,rfl,h.li.perm p,I,h.lenU hM⟩
theorem lg_sw{w0 w1:World}{D:List In}{a b M e:Int}{A B U V q r:In}{ua va:Int}(ev:Bool)(h:LgS w0 D a b M e A B U V q r w1)(hM:M<18446744073709551616^78)(hua:0<=ua/\ua<18446744073709551616)(hva:0<=va/\va<18446744073709551616):
 Calls Tryz.prog 123 #[.pointer (some ⟨U.p,0,none⟩),.pointer (some ⟨U.p,0,none⟩),.bool (!ev),.int .u64 ua] w1 fun en w2=>en= .returned (.tuple #[])/\
  Calls Tryz.prog 123 #[.pointer (some ⟨V.p,0,none⟩),.pointer (some ⟨V.p,0,none⟩),.bool ev,.int .u64 va] w2 fun en w3=>en= .returned (.tuple #[])/\
   Calls Tryz.prog 63 #[.pointer (some ⟨U.p,0,none⟩),.pointer (some ⟨U.p,0,none⟩),.pointer (some ⟨V.p,0,none⟩)] w3 fun en w4=>en= .returned (.pointer (some ⟨U.p,0,none⟩))/\ ∃U' V':In,U'.p=U.p/\U'.v=(if ev then 1 else -1)*(ua*U.v-va*V.v)/\Li w0 w4 (A::U'::([B,V',q,r]++D)):=by
 have p1:(A::B::U::V::q::r::D).Perm (U::V::A::B::q::r::D):=(List.perm_append_comm (l₁:=[A,B]) (l₂:=[U,V])).append_right (q::r::D);have hu9:=h.lenU hM;have hv9:=h.lenV hM;refine(mulWJ (!ev) (h.li.perm p1) (by omega) hua.1 hua.2).mono ?_;rintro en w2 ⟨rfl,U1,e1,v1,l1⟩;have e1':U.p=U1.p:=e1.symm;refine⟨rfl,(mulWJ ev l1.p2 (by omega) hva.1 hva.2).mono ?_⟩;rintro en w3 ⟨rfl,V1,e2,v2,l2⟩;have ku:=In.len_mul (h.li.ok U (by simp)) (l2.ok U1 (by simp)) hu9 v1 (sg_bound hua.1 hua.2).1 (sg_bound hua.1 hua.2).2;have kv:=In.len_mul (h.li.ok V (by simp)) (l2.ok V1 (by simp)) hv9 v2 (sg_bound hva.1 hva.2).1 (sg_bound hva.1 hva.2).2;refine⟨rfl,?_⟩;rw[e1',<- e2];refine(addI (x:=U1) (y:=V1) l2.p2 (by simp) (by simp) (by omega) (by omega)).mono ?_;rintro en w4 ⟨rfl,U2,e3,v3,l3⟩;refine⟨rfl,U2,V1,e3,?_,l3.perm ?_⟩
 ·rw[v3,v1,v2];cases ev<;>simp[sg]<;>grind
 ·have s1:[U2,V1,A,B,q,r].Perm [A,U2,V1,B,q,r]:=List.perm_append_comm (l₁:=[U2,V1]) (l₂:=[A]) |>.append_right [B,q,r]
  exact(s1.trans (((List.Perm.swap B V1 [q,r]).cons U2).cons A)).append_right D
theorem In.word0{w:World}{x:In}(h:InOk w x)(hl:x.xs.length=1): ∃v,w.cell? ⟨x.b,x.o,none⟩=some (.int .u64 v)/\w.frozen? ⟨x.b,x.o,none⟩=false:=by
 have hw:=h.nm.wr (by omega);have:=hw.cell (j:=0) (by omega);rw[Nat.add_zero]at this;exact⟨_,this,hw.frozen _⟩
theorem lg_store{w0 w4:World}{D:List In}{a b M e:Int}{A B U V q r U' V':In}{ua ub va vb aw:Int}{ev:Bool}(hI:LeI a b A.v B.v U.v V.v e)(hbb:b<=M)(hM:M<18446744073709551616^78)(L:LeM A.v B.v ua ub va vb (if ev then 1 else -1))(ha:aw=(if ev then 1 else -1)*(ua*A.v-va*B.v))(hb:(if ev then 1 else -1)*(vb*B.v-ub*A.v)=0)(ha0:0<aw)(ha1:aw<18446744073709551616)(hl:A.xs.length=1)(hA:0<A.v)
 (hv:U'.v=(if ev then 1 else -1)*(ua*U.v-va*V.v))(hp:U'.p=U.p)(l:Li w0 w4 (A::U'::([B,V',q,r]++D))):LgF w0 D a b (.pointer (some ⟨A.p,0,none⟩)) (.pointer (some ⟨U.p,0,none⟩)) (w4.setCell ⟨A.b,A.o,none⟩ (.int .u64 aw)):=by
 obtain⟨A',e1,e2,l2⟩:=setWordA l hl (In.pos (l.ok A (by simp)) hA).1 ha0 ha1;have I:=hI.mat L;rw[<-ha,hb,<- hv,<- e2]at I;refine⟨A',U',[B,V',q,r],_,_,by rw[e1],by rw[hp],l2,I,?_⟩;have h1:=I.bd;exact In.len (l.ok U' (by simp)) (by omega) (by omega)
theorem lg_end{w0 w1:World}{A U d x:In}{W:List In}(h:Li w0 w1 (A::U::(W++[d,x])))(hA:A.xs.length<=1000)(hU:U.xs.length<=1000):
 Calls Tryz.prog 38 #[.pointer (some ⟨x.p,0,none⟩),.pointer (some ⟨U.p,0,none⟩)] w1 fun en w2=>en= .returned (.pointer (some ⟨x.p,0,none⟩))/\
  Calls Tryz.prog 38 #[.pointer (some ⟨d.p,0,none⟩),.pointer (some ⟨A.p,0,none⟩)] w2 fun en w3=>en= .returned (.pointer (some ⟨d.p,0,none⟩))/\ ∃d' x':In,d'.p=d.p/\x'.p=x.p/\d'.v=A.v/\x'.v=U.v/\Li w0 w3 [d',x']:=by
 have p1:(A::U::(W++[d,x])).Perm (x::(A::U::(W++[d]))):=by
  have:A::U::(W++[d,x])=(A::U::(W++[d]))++[x]:=by simp
  rw[this];exact List.perm_append_comm
 refine(setI (x:=U) (h.perm p1) (by simp) hU).mono ?_;rintro en w2 ⟨rfl,x',e1,v1,l1⟩
 have p2:(x'::(A::U::(W++[d]))).Perm (d::(x'::A::U::W)):=by
  have:x'::(A::U::(W++[d]))=(x'::A::U::W)++[d]:=by simp
  rw[this];exact List.perm_append_comm
 refine⟨rfl,(setI (x:=A) (l1.perm p2) (by simp) hA).mono ?_⟩;rintro en w3 ⟨rfl,d',e2,v2,l2⟩;exact⟨rfl,d',x',e2,e1,v2,v1,l2.sub (by simp)⟩
def SwR(A B:Int)(w:World)(g:Nat)(s23 s24 s25 s26 s27 s28 s29 _s30 _s31:Value)(wx:World):Prop:=
 ∃(aw bw ua ub va vb:Int) (ev:Bool),s23= .int .u64 aw/\s24= .int .u64 bw/\s25= .int .u64 ua/\s26= .int .u64 ub/\s27= .int .u64 va/\s28= .int .u64 vb/\s29= .bool ev/\(ua<18446744073709551616/\va<18446744073709551616/\aw<=A)/\SwI A B aw bw ua ub va vb (if ev then 1 else -1)/\g=bw.toNat/\Fr [] w wx
section
variable {w0 w:World}{pd px:Nat}{a b:In}{M:Int}
theorem lehGCD(h:Li w0 w [newIn pd,newIn px])(ha:InOk w0 a)(hb:InOk w0 b)(ha0:0<a.v)(hb0:0<b.v)(haM:a.v<=M)(hbM:b.v<=M)(hM:M<18446744073709551616^78)(hc: ∀d:Int,d∣a.v->d∣b.v->d∣1)(hg:Gl w0):
 Calls Tryz.prog 91 #[.pointer (some ⟨pd,0,none⟩),.pointer (some ⟨px,0,none⟩),.pointer none,.pointer (some ⟨a.p,0,none⟩),.pointer (some ⟨b.p,0,none⟩)] w fun e w'=>e= .returned (.pointer (some ⟨pd,0,none⟩))/\ ∃d' x':In,d'.p=pd/\x'.p=px/\d'.v=1/\Cg b.v (a.v*x'.v) 1/\ -b.v<=x'.v/\x'.v<=b.v/\Li w0 w' [d',x']:=by
 have ha9:a.xs.length<=78:=In.len ha (by omega) (by have:=pow_pos_ (B:=18446744073709551616) (by omega) 78;omega);have hb9:b.xs.length<=78:=In.len hb (by omega) (by have:=pow_pos_ (B:=18446744073709551616) (by omega) 78;omega);have CA:=κ (fun(o:Obj) (ho:IntB (w.alloc o) w.heap.size false none 0 0)=>(absO (z:=newIn w.heap.size) (h.new ((Fr.refl [] w).alloc o) (Nat.le_refl _) ho) ha (by omega) (by omega)).mono (fun e w' hh=>PutI.pt hh));have CB:=κ (fun(W:List In) (wx:World) (o:Obj) (hl:Li w0 wx W) (ho:IntB (wx.alloc o) wx.heap.size false none 0 0)=>(absO (z:=newIn wx.heap.size) (hl.new ((Fr.refl [] wx).alloc o) (Nat.le_refl _) ho) hb (by omega) (by omega)).mono (fun e w' hh=>PutI.pt hh));have CU:=κ (fun(W:List In) (wx:World) (o:Obj) (hl:Li w0 wx W) (ho:IntB (wx.alloc o) wx.heap.size false none 0 0)=>(setOneI (hl.new ((Fr.refl [] wx).alloc o) (Nat.le_refl _) ho)).mono (fun e w' hh=>PutI.pt (z:=newIn wx.heap.size) hh));have HA:=κ ha;have HB:=κ hb;have HA0:=κ ha0;have HB0:=κ hb0;have HAM:=κ haM;have HBM:=κ hbM;have HM:=κ hM;have HC:=κ hc;have HG:=κ hg;have T1:True:=trivial;clear h ha hb ha0 hb0 haM hbM hM hc hg ha9 hb9;go_enter Tryz.func91,Tryz.ntmps91
 go_upto_region 8 with(first
  |(go_at_call 119;clear T1;refine(CA.out _ (heap_alloc_new w _)).mono ?_;rintro e w1 ⟨A,rfl,v1,l1⟩;have HL1:=κ l1;have V1:=κ v1;clear l1 v1)
  |(go_at_call 119;refine(CB.out _ _ _ HL1.out (heap_alloc_new w1 _)).mono ?_;rintro e w2 ⟨B,rfl,v2,l2⟩;have HL2:=κ l2;have V2:=κ v2;clear l2 v2)
  |(go_at_call 35;refine(CU.out _ _ _ HL2.out (heap_alloc_new w2 _)).mono ?_;rintro e w3 ⟨U,rfl,v3,l3⟩;have HL3:=κ l3;have V3:=κ v3;clear l3 v3));go_upto_region 10 with fail;have l4:=HL3.out.new ((Fr.refl [] w3).alloc (.cells #[.bool false,.slice none 0 0] 45)) (Nat.le_refl _) (heap_alloc_new w3 _);have l5:=l4.new ((Fr.refl [] _).alloc (.cells #[.bool false,.slice none 0 0] 45)) (Nat.le_refl _) (heap_alloc_new _ _);have l6:=l5.new ((Fr.refl [] _).alloc (.cells #[.bool false,.slice none 0 0] 45)) (Nat.le_refl _) (heap_alloc_new _ _);have s4:(w3.alloc (.cells #[.bool false,.slice none 0 0] 45)).heap.size=w3.heap.size+1:=by simp
 have s5:((w3.alloc (.cells #[.bool false,.slice none 0 0] 45)).alloc (.cells #[.bool false,.slice none 0 0] 45)).heap.size=w3.heap.size+1+1:=by simp
 rw[s5]at l6;rw[s4]at l6;clear l4 l5 s4 s5;generalize hw6:((w3.alloc (.cells #[.bool false,.slice none 0 0] 45)).alloc (.cells #[.bool false,.slice none 0 0] 45)).alloc (.cells #[.bool false,.slice none 0 0] 45)=w6 at l6 ⊢
 clear hw6;generalize hr:newIn (w3.heap.size+1+1)=r at l6;have hr':w3.heap.size+1+1=r.p:=by rw[<-hr];rfl
 clear hr;rw[hr'];clear hr';generalize hq:newIn (w3.heap.size+1)=q at l6;have hq':w3.heap.size+1=q.p:=by rw[<-hq];rfl
 clear hq;rw[hq'];clear hq';have hv0:(newIn w3.heap.size).v=0:=rfl;generalize hV:newIn w3.heap.size=V at l6 hv0;have hV':w3.heap.size=V.p:=by rw[<-hV];rfl
 clear hV;rw[hV'];clear hV';have HL6:=κ (show Li w0 w6 (A::B::U::V::q::r::[newIn pd,newIn px])from l6.perm ((List.reverse_perm [A,B,U,V,q,r]).append_right [newIn pd,newIn px]));have a1:w6.cell? ⟨A.p,1,none⟩=some (.slice A.A A.xs.length A.c):=(HL6.out.ok A (by simp)).ib.cell1;have b1:w6.cell? ⟨B.p,1,none⟩=some (.slice B.A B.xs.length B.c):=(HL6.out.ok B (by simp)).ib.cell1;have HV0:=κ hv0;obtain⟨c,hc⟩: ∃c,c=cmpI (val 18446744073709551616 A.xs) (val 18446744073709551616 B.xs):=⟨_,rfl⟩;have HCC:=κ hc;have CC:=κ (fun W (f:Fr [] w6 W)=>cmpN_any A.A A.b A.o A.c A.xs B.A B.b B.o B.c B.xs W ((HL6.out.ok A (by simp)).nm.fr0 f) (HL6.out.ok A (by simp)).dg (HL6.out.ok A (by simp)).nz ((HL6.out.ok B (by simp)).nm.fr0 f) (HL6.out.ok B (by simp)).dg (HL6.out.ok B (by simp)).nz);rw[<-hc]at CC;have hA9:=(HL6.out.ok A (by simp)).nm.le;have hB9:=(HL6.out.ok B (by simp)).nm.le;have hAc:=(HL6.out.ok A (by simp)).c9;have hBc:=(HL6.out.ok B (by simp)).c9;clear l6 hv0 hc CA CB CU HL1 HL2 HL3;go_region_held3 (fun w'=>w'.cell? ⟨A.p,1,none⟩=some (.slice A.A A.xs.length A.c)/\w'.cell? ⟨B.p,1,none⟩=some (.slice B.A B.xs.length B.c)) (first|exact⟨by assumption,by assumption⟩|go_keep) ((go_at_call 47;refine(CC.out _ (Fr.refl _ _).drew).mono ?_;rintro e w7 ⟨rfl,f7⟩;have F7:=κ (show Fr [] w6 w7 from⟨f7.os,f7.tape,f7.output,f7.size,f7.block⟩);clear f7;have a2:w7.cell? ⟨A.p,1,none⟩=some (.slice A.A A.xs.length A.c):=((HL6.out.fr0 F7.out).ok A (by simp)).ib.cell1;have b2:w7.cell? ⟨B.p,1,none⟩=some (.slice B.A B.xs.length B.c):=((HL6.out.fr0 F7.out).ok B (by simp)).ib.cell1));clear CC a1 b1;go_upto_if 60 with fail;go_cut [11,12,13,14]from 60 to 64 (fun s11 s12 s13 s14 wx=>LgC w0 [newIn pd,newIn px] a.v b.v M (.pointer (some ⟨q.p,0,none⟩)) (.pointer (some ⟨r.p,0,none⟩)) s11 s12 s13 s14 wx)
 case first=>
  have hA:=(HL6.out.ok A (by simp));have hB:=(HL6.out.ok B (by simp));have pA:=In.pos hA (by rw[V1.out];exact HA0.out);have pB:=In.pos hB (by rw[V2.out];exact HB0.out);have hF:=κ (lg_first HL6.out F7.out V1.out V2.out V3.out HV0.out HA0.out HB0.out HAM.out HBM.out);by_cases hlt:A.v<B.v
  ·have hc0:c<0:=by rw[HCC.out,<- pA.2.2,<- pB.2.2];exact cmpI_neg hlt
   have HF:=κ (hF.out.2 hlt);clear hA hB pA pB hF hlt;go_wp2_with fail;go_meet;exact⟨_,_,_,_,_,_,_,rfl,rfl,rfl,rfl,rfl,rfl,HF.out⟩
  ·have hc0: ¬c<0:=by rw[HCC.out,<- pA.2.2,<- pB.2.2];have:=cmpI_ge (n:=A.v) (m:=B.v) (by omega);omega
   have HF:=κ (hF.out.1 (by omega));clear hA hB pA pB hF hlt;go_wp2_with fail;go_meet;exact⟨_,_,_,_,_,_,_,rfl,rfl,rfl,rfl,rfl,rfl,HF.out⟩
 case rest=>
  obtain⟨e,A0,B0,U0,V0,q0,r0,rfl,rfl,rfl,rfl,hq0,hr0,hS0⟩:=hcut;have hq1:q.p=q0.p:=by injection hq0 with h;injection h with h;injection h
  have hr1:r.p=r0.p:=by injection hr0 with h;injection h with h;injection h
  rw[hq1,hr1];obtain⟨pq,hpq⟩: ∃pq,pq=q0.p:=⟨_,rfl⟩;have HPQ:=κ hpq;have HS0:=κ hS0;rw[<-hpq];clear hq0 hr0 hq1 hr1 hpq hS0 HL6 HV0 HCC F7 a2 b2 hA9 hB9 hAc hBc V1 V2 V3;go_wp2_with fail;go_loopg [11,12,13,14,17,18,19,20,21,22] (A0.v+B0.v).toNat (LgR w0 [newIn pd,newIn px] a.v b.v M pq);case atStart=>exact⟨e,A0,B0,U0,V0,q0,r0,rfl,rfl,rfl,rfl,rfl,HPQ.out.symm,rfl,HS0.out⟩
  case round=>
   obtain⟨e,A,B,U,V,q,r,rfl,rfl,rfl,rfl,rfl,hq1,rfl,hS⟩:=hrel;have HS:=κ hS;have HQ:=κ hq1;have b1:wr.cell? ⟨B.p,1,none⟩=some (.slice B.A B.xs.length B.c):=(hS.li.ok B (by simp)).ib.cell1;have hBl:=hS.lenB HM.out;have hBc:=(hS.li.ok B (by simp)).c9;have hBn:=(hS.li.ok B (by simp)).nm.le;rw[<-hq1];clear hS hq1 HS0 HPQ;by_cases h2:1<B.xs.length
   ·have hI:(1:Int)<(B.xs.length:Int):=by omega
    have HB1:=κ (In.posl (HS.out.li.ok B (by simp)) HS.out.inv.b0 (by omega));have CS:=κ (lehSimI (HS.out.li.ok A (by simp)) (HS.out.li.ok B (by simp)) HS.out.inv.a0 HB1.out (by omega) (by have:=HS.out.lenA HM.out;omega) HS.out.inv.ab);unfold In.pt at CS;go_upto_if 81 with(go_at_call 120;refine(CS.out).mono ?_;rintro en w8 ⟨u0,u1,v0,v1,ev,rfl,bu0,bu1,bv0,bv1,hm,f8⟩;have HMT:=κ hm;have HS8:=κ (HS.out.fr0 f8);have BU0:=κ bu0;have BU1:=κ bu1;have BV0:=κ bv0;have BV1:=κ bv1;clear hm f8 bu0 bu1 bv0 bv1);by_cases hv:v0=0
    ·have hvb:(v0 !=0)=false:=by rw[hv];rfl
     have CE:=κ (lg_euc HS8.out HM.out HB1.out HG.out);unfold In.pt at CE;subst hv;clear hvb CS hI h2;go_wp2_with (go_at_call 122;refine(CE.out).mono ?_;rintro en w9 ⟨A9,U9,q9,r9,rfl,eq9,hS9,hlt9,hlt9'⟩;have HS9:=κ hS9;have EQ9:=κ eq9;have HLT:=κ hlt9;clear eq9 hS9 hlt9 hlt9');rw[HQ.out];go_roundg ((B.v+A9.v).toNat);case measure=>have:=HLT.out;have:=HS.out.inv.a0;have:=HB1.out;have:=HS9.out.inv.b0;omega
     case rel=>exact⟨_,B,A9,V,U9,q9,r9,rfl,rfl,rfl,rfl,rfl,EQ9.out.trans HQ.out,rfl,HS9.out⟩
    ·have hvb:(v0 !=0)=true:=by rw[bne_iff_ne];exact hv
     have CM:=κ (lg_two HS8.out HM.out (HMT.out hv) BU0.out BU1.out BV0.out BV1.out hv HB1.out);have T2:True:=trivial;clear CS hI h2 hv
     go_wp2_with (first
      |(go_at_call 121;clear T2;refine(CM.out).mono ?_;rintro en w9 ⟨rfl,h9⟩;have C9:=κ h9;clear h9)
      |(go_at_call 121;refine(C9.out).mono ?_;rintro en w10 ⟨rfl,g10,hg10,hr10⟩;have G10:=κ hg10;have R10:=κ hr10;clear hg10 hr10));rw[HQ.out];go_roundg g10;case measure=>exact G10.out
     case rel=>rw[<-HQ.out];exact R10.out _ _ _ _ _
   ·have hI: ¬(1:Int)<(B.xs.length:Int):=by omega
    have hBlI:B.xs.length=0\/B.xs.length=1:=by omega
    go_upto_if 122 with fail;go_cut [11,12,13,14,17,23,24,25,26,27,28,29,30,31]from 122 to 212 (fun s11 _ s13 _ _ _ _ _ _ _ _ _ _ _ wx=>LgF w0 [newIn pd,newIn px] a.v b.v s11 s13 wx)
    case first=>
     rcases hBlI with hB0|hB1
     ·have hd:decide ((0:Int)<(B.xs.length:Int))=false:=decide_eq_false (by omega)
      have hdN:decide (0<B.xs.length)=false:=decide_eq_false (by omega);try simp only[hd,hdN]
      have HZ:=κ hB0;clear hB0 hd hdN;go_wp2_with fail;go_meet;exact HS.out.fin HM.out HZ.out
     ·have hd:decide ((0:Int)<(B.xs.length:Int))=true:=decide_eq_true (by omega)
      have hdN:decide (0<B.xs.length)=true:=decide_eq_true (by omega);try simp only[hd,hdN]
      have HZ:=κ hB1;clear hB1;have a1:wr.cell? ⟨A.p,1,none⟩=some (.slice A.A A.xs.length A.c):=(HS.out.li.ok A (by simp)).ib.cell1;have hAl:=HS.out.lenA HM.out;have hB0:0<B.v:=In.posl (HS.out.li.ok B (by simp)) HS.out.inv.b0 (by rw[HZ.out];omega);have HB1:=κ hB0;clear hB0 hd hdN h2 hI;go_upto_if 128 with fail;go_cut [11,12,13,14,17]from 128 to 142 (fun s11 s12 s13 s14 s17 wx=>LgW w0 [newIn pd,newIn px] a.v b.v M s11 s12 s13 s14 s17 wx)
      case first=>
       by_cases hA1:1<A.xs.length
       ·have hd:decide ((1:Int)<(A.xs.length:Int))=true:=decide_eq_true (by omega)
        have hdN:decide (1<A.xs.length)=true:=decide_eq_true (by omega);try simp only[hd,hdN]
        have CE:=κ (lg_euc HS.out HM.out HB1.out HG.out);unfold In.pt at CE;clear hA1 hd hdN;go_wp2_with (go_at_call 122;refine(CE.out).mono ?_;rintro en w9 ⟨A9,U9,q9,r9,rfl,eq9,hS9,hlt9,hlt9'⟩;have HS9:=κ hS9;have HLT:=κ hlt9';clear eq9 hS9 hlt9 hlt9');go_meet;refine⟨_,B,A9,V,U9,q9,r9,rfl,rfl,rfl,rfl,rfl,HS9.out,by rw[HZ.out];omega,?_⟩;have hb1:=(In.abs (HS.out.li.ok B (by simp))).1;rw[HZ.out]at hb1;have:=HLT.out;have:=HS9.out.inv.b0;exact In.len (HS9.out.li.ok A9 (by simp)) (by omega) (by omega)
       ·have hd:decide ((1:Int)<(A.xs.length:Int))=false:=decide_eq_false (by omega)
        have hdN:decide (1<A.xs.length)=false:=decide_eq_false (by omega);try simp only[hd,hdN]
        have HZA:=κ (show A.xs.length<=1 by omega);clear hA1 hd hdN;go_wp2_with fail;go_meet;exact⟨_,A,B,U,V,q,r,rfl,rfl,rfl,rfl,rfl,HS.out,HZA.out,by rw[HZ.out];omega⟩
      case rest=>
       obtain⟨e,A,B,U,V,q,r,rfl,rfl,rfl,rfl,rfl,hS2,hA1,hB1⟩:=hcut;obtain⟨w2,hw2⟩: ∃w2,w2=wc:=⟨_,rfl⟩;subst hw2;have HS2:=κ hS2;have b1:w2.cell? ⟨B.p,1,none⟩=some (.slice B.A B.xs.length B.c):=(hS2.li.ok B (by simp)).ib.cell1;have hBc:=(hS2.li.ok B (by simp)).c9;have hBn:=(hS2.li.ok B (by simp)).nm.le;clear hS2 HS HZ HB1 a1;go_upto_if 148 with fail;by_cases hB0:B.xs.length=0
       ·have hd:decide ((0:Int)<(B.xs.length:Int))=false:=decide_eq_false (by omega)
        have hdN:decide (0<B.xs.length)=false:=decide_eq_false (by omega);try simp only[hd,hdN]
        have HZ:=κ hB0;clear hB0 hd hdN;go_wp2_with fail;go_meet;exact HS2.out.fin HM.out HZ.out
       ·have hd:decide ((0:Int)<(B.xs.length:Int))=true:=decide_eq_true (by omega)
        have hdN:decide (0<B.xs.length)=true:=decide_eq_true (by omega);try simp only[hd,hdN]
        have hAp:=HS2.out.inv.a0;have hBp:=In.posl (HS2.out.li.ok B (by simp)) HS2.out.inv.b0 (by omega);obtain⟨_,hAl,hAv⟩:=In.pos (HS2.out.li.ok A (by simp)) hAp;obtain⟨_,hBl,hBv⟩:=In.pos (HS2.out.li.ok B (by simp)) hBp;have ea:=(HS2.out.li.ok A (by simp)).nm.addr hAl;have eb:=(HS2.out.li.ok B (by simp)).nm.addr hBl;obtain⟨x,hx⟩:=List.length_eq_one_iff.1 (show A.xs.length=1 by omega);obtain⟨y,hy⟩:=List.length_eq_one_iff.1 (show B.xs.length=1 by omega)
        have cx:w2.cell? ⟨A.b,A.o,none⟩=some (.int .u64 x):=by
         have:=(HS2.out.li.ok A (by simp)).nm.2.2 hAl 0 hAl;rw[Nat.add_zero]at this;rw[this,hx];rfl
        have cy:w2.cell? ⟨B.b,B.o,none⟩=some (.int .u64 y):=by
         have:=(HS2.out.li.ok B (by simp)).nm.2.2 hBl 0 hBl;rw[Nat.add_zero]at this;rw[this,hy];rfl
        have dx:=(HS2.out.li.ok A (by simp)).dg x (by rw[hx];simp);have dy:=(HS2.out.li.ok B (by simp)).dg y (by rw[hy];simp);have ex:A.v=x:=by rw[hAv,hx,val_cons,val_nil];omega
        have ey:B.v=y:=by rw[hBv,hy,val_cons,val_nil];omega
        have a1:w2.cell? ⟨A.p,1,none⟩=some (.slice (some ⟨A.b,A.o,none⟩) A.xs.length A.c):=by rw[<-ea];exact(HS2.out.li.ok A (by simp)).ib.cell1
        rw[eb]at b1;have HEX:=κ ex;have HBP:=κ hBp;have EA:=κ ea;have HEY:=κ ey;have HX1:=κ (show A.xs.length=1 by omega);have hlA:(0:Int)<(A.xs.length:Int):=by omega
        have hlB:(0:Int)<(B.xs.length:Int):=by omega
        have hAc:=(HS2.out.li.ok A (by simp)).c9;have hAn:=(HS2.out.li.ok A (by simp)).nm.le;obtain⟨dx0,dx1⟩:=dx;obtain⟨dy0,dy1⟩:=dy;have hxy:y<=x:=by rw[<-ex,<- ey];exact HS2.out.inv.ab
        have hx0:0<x:=by rw[<-ex];exact hAp
        clear hd hdN hB0 hx hy ex ey hAv hBv ea eb hAp hBp;go_upto_region 24 with fail;go_quiet (fail);go_wp2_with fail;go_loopg [23,24,25,26,27,28,29,30,31] y.toNat (SwR x y w2);case atStart=>exact⟨x,y,1,0,0,1,true,rfl,rfl,rfl,rfl,rfl,rfl,rfl,⟨by omega,by omega,Int.le_refl _⟩,SwI.start hx0 dy0 hxy,rfl,by first|exact Fr.refl _ _|exact((Fr.refl _ _).drewN _)|exact(Fr.refl _ _).drew⟩
        case round=>
         obtain⟨aw,bw,ua,ub,va,vb,ev,rfl,rfl,rfl,rfl,rfl,rfl,rfl,hbd,hI,rfl,hf⟩:=hrel;obtain⟨hua1,hva1,hawx⟩:=hbd;have HI:=κ hI;have HF:=κ hf;have I1:=hI.ua0;have I2:=hI.ub0;have I3:=hI.va0;have I4:=hI.vb0;have I5:=hI.a0;have I6:=hI.b0;have I7:=hI.ab;obtain⟨hvbx,huby⟩:=hI.fits;clear hI hf;by_cases hbw:bw=0
         ·have hb1:(bw !=0)=false:=by rw[hbw];rfl
          subst hbw;have hy0:y≠0:=by rw[<-HEY.out];have:=HBP.out;omega
          have hL:=HI.out.fin hy0;rw[<-HEX.out,<- HEY.out]at hL;have HL:=κ hL;have HE1:=κ HI.out.e1;have HE2:=κ HI.out.e2.symm;have HAW:=κ (And.intro I5 (show aw<18446744073709551616 by omega));have CW:=κ (lg_sw ev (HS2.out.fr0 HF.out) HM.out ⟨I1,hua1⟩ ⟨I3,hva1⟩);have T3:True:=trivial;clear hb1 hy0 hL I1 I2 I3 I4 I5 I6 I7 hvbx huby hua1 hva1 hawx cx cy a1 b1
          go_wp2_with (first
           |(go_at_call 123;clear T3;refine(CW.out).mono ?_;rintro en w5 ⟨rfl,h5⟩;have C5:=κ h5;clear h5)
           |(go_at_call 123;refine(C5.out).mono ?_;rintro en w6 ⟨rfl,h6⟩;have C6:=κ h6;clear h6)
           |(go_at_call 63;refine(C6.out).mono ?_;rintro en w7 ⟨rfl,U',V',e7,v7,l7⟩;have E7:=κ e7;have V7:=κ v7;have L7:=κ l7;have a7:w7.cell? ⟨A.p,1,none⟩=some (.slice (some ⟨A.b,A.o,none⟩) A.xs.length A.c):=(by rw[<-EA.out];exact(l7.ok A (by simp)).ib.cell1);obtain⟨x7,cx7,fz7⟩:=In.word0 (l7.ok A (by simp)) HX1.out;clear e7 v7 l7));go_meet;exact lg_store HS2.out.inv HS2.out.bb HM.out HL.out (by rw[HE1.out,<- HEX.out,<- HEY.out]) (by rw[HEX.out,HEY.out];exact HE2.out) HAW.out.1 HAW.out.2 HX1.out HS2.out.inv.a0 V7.out E7.out L7.out
         ·have hb1:(bw !=0)=true:=by rw[bne_iff_ne];exact hbw
          obtain⟨q,hq⟩: ∃q,q=aw/bw:=⟨_,rfl⟩;obtain⟨r,hr⟩: ∃r,r=aw%bw:=⟨_,rfl⟩;have hS:=HI.out.step (by omega) hq hr;have q1:aw/bw=q:=hq.symm;have r1:aw%bw=r:=hr.symm;have q2:aw.tdiv bw=q:=by rw[Int.tdiv_eq_ediv_of_nonneg (by omega)];exact q1
          have r2:aw.tmod bw=r:=by rw[Int.tmod_eq_emod_of_nonneg (by omega)];exact r1
          obtain⟨I',hrb,hr0,hqu,hqv⟩:=hS;obtain⟨hfv,hfu⟩:=I'.fits;obtain⟨qu,hqu'⟩: ∃qu,qu=q*ub:=⟨_,rfl⟩;obtain⟨qv,hqv'⟩: ∃qv,qv=q*vb:=⟨_,rfl⟩;rw[<-hqu']at hqu hfu I';rw[<-hqv']at hqv hfv I';have w1:IntKind.u64.wrap (q*ub)=qu:=by rw[IntKind.wrap_u64,<- hqu'];omega
          have w2_:IntKind.u64.wrap (q*vb)=qv:=by rw[IntKind.wrap_u64,<- hqv'];omega
          have w3_:IntKind.u64.wrap (ua+qu)=ua+qu:=by rw[IntKind.wrap_u64];omega
          have w4_:IntKind.u64.wrap (va+qv)=va+qv:=by rw[IntKind.wrap_u64];omega
          have hq0:0<=q:=by rw[hq];exact Int.ediv_nonneg (by omega) (by omega)
          have hqlt:q<18446744073709551616:=by
           have:=Int.ediv_le_self (a:=aw) bw (by omega);omega
          have w5:IntKind.u64.wrap q=q:=by rw[IntKind.wrap_u64,Int.emod_eq_of_lt hq0 hqlt]
          have hne:(bw==0)=false:=by rw[beq_eq_false_iff_ne];exact hbw
          have HI':=κ I';have HRB:=κ hrb;have HFU:=κ hfu;have HFV:=κ hfv;clear hq hr I' hqu' hqv' hbw;go_upto_region 31 with fail;go_quiet (fail);go_wp2_with fail;go_roundg r.toNat;case measure=>have:=HRB.out;omega
          case rel=>
           refine⟨bw,r,ub,ua+qu,vb,va+qv,!ev,rfl,rfl,rfl,rfl,rfl,rfl,rfl,⟨by omega,by omega,by omega⟩,?_,rfl,⟨HF.out.os,HF.out.tape,HF.out.output,HF.out.size,HF.out.block⟩⟩;have:=HI'.out;cases ev<;>simpa using this
    case rest=>
     obtain⟨A,U,W,Vv,e,rfl,rfl,hL,hI,hU⟩:=hcut;obtain⟨w2,hw2⟩: ∃w2,w2=wc:=⟨_,rfl⟩;subst hw2;have hInv:=hI.inv HC.out;have HI:=κ hInv;have HBD:=κ hI.bd
     have hA9:A.xs.length<=1000:=by
      have:=In.len (k:=1) (hL.ok A (by simp)) (by rw[hInv.1];decide) (by rw[hInv.1];decide);omega
     have CE:=κ (lg_end (d:=newIn pd) (x:=newIn px) hL hA9 (by omega))
     have c0:w2.cell? ⟨a.p,0,none⟩=some (.bool false):=by
      have:=(HA.out.fr0 hL.fr).ib.cell0;rwa[(In.pos HA.out HA0.out).1]at this
     have T3:True:=trivial;clear hL hI hU hInv hA9
     go_wp2_with (first
      |(go_at_call 38;clear T3;refine(CE.out).mono ?_;rintro en w3 ⟨rfl,h3⟩;have C3:=κ h3;clear h3)
      |(go_at_call 38;refine(C3.out).mono ?_;rintro en w4 ⟨rfl,d',x',e1,e2,v1,v2,l4⟩;have R:=κ (And.intro e1 (And.intro e2 (And.intro v1 (And.intro v2 l4))));clear e1 e2 v1 v2 l4));first|go_ret2|go_ret
     obtain⟨e1,e2,v1,v2,l4⟩:=R.out;exact⟨rfl,d',x',e1,e2,v1.trans HI.out.1,by rw[v2];exact HI.out.2,by rw[v2];exact HBD.out.1,by rw[v2];exact HBD.out.2,l4⟩
end
end Go.Proofs.YthecibbmbnpegaaGreatDoor
