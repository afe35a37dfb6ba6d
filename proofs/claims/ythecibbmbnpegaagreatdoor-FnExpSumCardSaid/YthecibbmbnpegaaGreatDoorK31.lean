/-
  Part 31 of the proof of the law FnExpSum: XLs, XWiA, XWiB. Conditions: those of each statement.
-/
import Derived.Test.YthecibbmbnpegaaGreatDoorK28
import Derived.Laws.Bits64
import Derived.Deep.DeepCutAuto
import Derived.Deep.RegionWith
set_option linter.unusedSimpArgs false
set_option linter.unusedVariables false
set_option maxRecDepth 100000
set_option maxHeartbeats 200000
namespace Go.Proofs.YthecibbmbnpegaaGreatDoor
open Go.Big Go.RowKit
section
variable {s N:Nat}{w0 w w':World}{q0 q q':Option StkSt}{W R:List Pn}{z z':Pn}
theorem NwP.le(h:NwP N s q z)(hl:StkLe w.heap.size q q')(hb:0<z.c->z.b<w.heap.size):NwP N s q' z:=by
 rcases h with h|⟨h1,h2⟩
 ·exact .inl h
 ·by_cases hc:z.c=0
  ·exact .inl hc
  ·exact .inr ⟨h1,h2.le hl (hb (by omega))⟩
theorem NwP.put(h:NwP N s q z)(hN:N<=w.heap.size)(hl:StkLe w.heap.size q q')(hb:0<z.c->z.b<w.heap.size)(hp:z'.c=0\/(z'.b=z.b/\z'.o=z.o/\z'.c=z.c)\/(w.heap.size<=z'.b/\NewS s q' z'.b)):NwP N s q' z':=by
 rcases hp with hp|⟨e1,_,e3⟩|⟨h1,h2⟩
 ·exact .inl hp
 ·have:=h.le hl hb
  unfold NwP at*;rw[e1,e3];exact this
 ·exact .inr ⟨by omega,h2⟩
theorem Lv.lt(h:Lv s w0 q0 w q W R)(hz:z∈W++R):0<z.c->z.b<w.heap.size:=fun hc=>(h.ok z hz).lt hc
theorem natL(h:Lv s w0 q0 w q W R){n:Nat}(hn0:0<n)(hn9:n<=1000000)(hln:lenS q<=80000000000):
 Calls Tryz.prog 55 #[.pointer (some ⟨s,0,none⟩),.int .i64 (n:Int)] w fun e w'=> ∃b o c q',e= .returned (.slice (some ⟨b,o,none⟩) n c)/\n<=c/\c<=9223372036854775807/\Lv s w0 q0 w' q' (⟨some ⟨b,o,none⟩,b,o,c,[]⟩::W) R/\lenS q<=lenS q'/\lenS q'<=lenS q+n+3/\StkLe w.heap.size q q'/\Fc 51 (StS s q) w w':=by
 refine(nat_any s n q w h.st hn0 (by omega) (by omega)).mono ?_;rintro e w' ⟨b,o,c,q',rfl,h1,h2,⟨L,hL,hLl⟩,h4,h5,h6,h7,h8,h9,h10⟩;have hm:=h2;unfold maxLen at h2;have hsz:=h.fr.size
 have keep: ∀p,p∈W++R->PnOk s q' w' p:=fun p hp=>by
  have ho:=h.ok p hp;refine⟨ho.nm.fc h8 (fun i a1 a2=>ho.off i a1 (by have:=ho.nm.le;omega)),ho.dg,ho.c9,?_⟩;by_cases hc:0<p.c
  ·exact off_le h5 h6 ho.off (ho.lt hc)
  ·intro i a1 a2;omega
 refine⟨b,o,c,q',rfl,h1,by omega,⟨h4,h.le.trans h5 hsz,by have:=h.l0;omega,by omega,h.fr.trans h8 (fun x i hh hlt=>h.le.sub h.l0 x i hh hlt),gl_fc h.gl h8 (fun g v hg=>glo_stk hg h.st 0),fun p hp=> ?_,?_,fun p hp=> ?_⟩,h6,h7,h5,h8⟩
 ·rw[List.cons_append,List.mem_cons]at hp
  rcases hp with rfl|hp
  ·exact⟨Nm.nil (Rcv.of_row hL hLl hm),DG.nil _,by simp only;omega,fun i a1 a2=>h10 i a1 a2⟩
  ·exact keep p hp
 ·rw[List.cons_append,List.pairwise_cons]
  refine⟨fun p hp=> ?_,h.dj⟩;have ho:=h.ok p hp;by_cases hc:0<p.c
  ·exact(nat_dj h9 (ho.lt hc) ho.off).symm
  ·unfold PDj Dj;omega
 ·rw[List.mem_cons]at hp
  rcases hp with rfl|hp
  ·intro i a1 a2 hlt
   exact h.le.sub h.l0 b i (h9 (by simp only at hlt;omega) i a1 a2) hlt
  ·exact h.nw p hp
theorem Lv.restore{w1:World}{k:Nat}(h:Lv s w0 q0 w q W R)(hz:NwP w0.heap.size s q z)(hzm:PnOk s q w z)(hk:k=lenS q0)(hr:StkAt w1 s (resS k q))(hf:Fc 51 (StS s q) w w1)(hz':NZ z.xs){V:Int}(hv:z.n=V):RetS s q0 V w0 (.returned z.v) w1:=by
 subst hk;have hsz:=h.fr.size
 have hll:lenS (resS (lenS q0) q)=lenS q0:=lenS_res (fun hh=>by
  have h1:=h.l0;rw[hh]at h1;have e:lenS none=0:=rfl;omega);have hle:StkLe w0.heap.size q0 (resS (lenS q0) q):=h.le.res;have hfc:Fc 51 (StS s q0) w0 w1:=h.fr.trans hf (fun b i hh hlt=>h.le.sub h.l0 b i hh hlt);have hnm:Nm w1 z.A z.b z.o z.c z.xs:=hzm.nm.fc hf (fun i a1 a2=>hzm.off i a1 (by have:=hzm.nm.le;omega));rcases hz with hc|⟨hN,hS⟩
 ·have hx:z.xs=[]:=List.eq_nil_of_length_eq_zero (by have:=hzm.nm.le;omega)
  refine⟨⟨z.A,w1.heap.size,0,z.c,z.xs⟩,_,rfl,⟨?_,hzm.dg,hz'⟩,hv,hzm.c9,hfc.size,NewS.of hr (Nat.le_refl _),hr,hle,hll,hfc⟩;simp only;rw[hx];exact Nm.nil ⟨hzm.nm.max,.inl hc⟩
 ·refine⟨z,_,rfl,⟨hnm,hzm.dg,hz'⟩,hv,hzm.c9,hN,?_,hr,hle,hll,hfc⟩
  have hS':NewS s (resS (lenS q0) q) z.b:=by
   cases q with
   |none=>exact hS
   |some q=>exact⟨hS.1,fun p hp=>by simp only[resS]at hp;cases hp;exact hS.2 q rfl⟩
  exact hS'
end
end Go.Proofs.YthecibbmbnpegaaGreatDoor
namespace Go.Big
theorem set_split{α:Type}{ps:List α}{i:Nat}(hi:i<ps.length)(p':α):ps=ps.take i++ps[i]::ps.drop (i+1)/\ps.set i p'=ps.take i++p'::ps.drop (i+1):=by
 refine⟨?_,?_⟩
 ·rw[<-List.drop_eq_getElem_cons hi,List.take_append_drop]
 ·rw[List.set_eq_take_append_cons_drop,if_pos hi]
end Go.Big
namespace Go.Proofs.YthecibbmbnpegaaGreatDoor
open Go.Big Go.RowKit
structure WiE(o:Option Int)(nw:Nat)(p:Pn)(v:Value):Prop where
 kn: ∀V,o=some V->v=p.v/\NZ p.xs/\p.n=V
 no:o=none->v=p.r nw/\nw<=p.c
theorem WiE.r{o:Option Int}{nw:Nat}{p:Pn}{v:Value}(h:WiE o nw p v)(hl:p.xs.length<=p.c): ∃l,v=p.r l/\l<=p.c:=by
 cases o with
 |none=>exact⟨nw,h.no rfl⟩
 |some V=>exact⟨p.xs.length,(h.kn V rfl).1,hl⟩
structure WiP(s:Nat)(wB:World)(q:Option StkSt)(nw:Nat)(R:List Pn)(z zz:Pn)(ps:List Pn)(pb:Nat)(vs:List Value)(f:Nat->Option Int)(w:World)(q':Option StkSt):Prop where
 lv:Lv s wB q w q' (z::zz::ps) R
 pl:ps.length<=16
 pk:Pb w pb vs
 pn:wB.heap.size<=pb
 nps:NewS s q' pb
 en: ∀j,j<ps.length->WiE (f j) nw (ps.getD j (nilP 0)) (vs.getD j nilV)
 un: ∀j,ps.length<=j->j<16->vs.getD j nilV=nilV
def upd(f:Nat->Option Int)(i:Nat)(V:Int):Nat->Option Int:=fun j=>if j=i then some V else f j
def WiQ(s:Nat)(wB:World)(q:Option StkSt)(nw:Nat)(R:List Pn)(z zz:Pn)(pb:Nat)(vs:List Value)(f:Nat->Option Int)(N i:Nat)(V:Int)(w:World)(q':Option StkSt)(e:Ending)(w1:World):Prop:=
 ∃A l c q1 ps',e= .returned (.slice A l c)/\Pb w1 pb vs/\lenS q1=lenS q'/\StkLe w.heap.size q' q1/\ps'.length=N/\WiP s wB q nw R z zz ps' pb (vs.set i (.slice A l c)) (upd f i V) (w1.setCell ⟨pb,i,none⟩ (.slice A l c)) q1
section
variable {s nw i j pb N:Nat}{wB w w' w0:World}{q q' q0:Option StkSt}{V:Int}{W R:List Pn}{z zz p p' x y:Pn}{ps:List Pn}{vs:List Value}{f:Nat->Option Int}{e:Ending}
theorem getd{ps:List Pn}{i:Nat}(h:i<ps.length):ps.getD i (nilP 0)=ps[i]:=by simp[List.getD_eq_getElem?_getD,h]
theorem Pb.put(h:Pb w pb vs)(hs:NewS s q pb)(hl:Lv s w0 q0 w q (p::W) R)(hf:Fc 51 (fun b i=>StS s q b i\/In1 p.b p.o p.c b i) w w'):Pb w' pb vs:=by
 refine h.fc hf (fun i hh=> ?_);rcases hh with hh|hh
 ·exact hs.off (b:=pb) (o:=i) (n:=1) i (Nat.le_refl _) (by omega) hh
 ·have hc:0<p.c:=by have:=hh.2.1;have:=hh.2.2;omega
  obtain⟨L,hL,_⟩:=(hl.ok p (by simp)).nm.rcv.row hc;exact h.row_ne hL hh.1.symm
theorem Lv.far(h:Lv s w0 q0 w q W R)(hf:Fc 51 (fun b _=>b=pb) w w')(hn:NewS s q pb)(hw:w0.heap.size<=pb)(hr: ∀L,¬ Row .u64 51 w pb L)(hg: ∀g v,Glo w g v->g≠pb):Lv s w0 q0 w' q W R:=by
 refine⟨h.st.fc hf (fun i hh=>hn.1 hh.symm) (fun p hp i hh=>(hn.2 p hp).1 hh.symm),h.le,h.l0,h.ln,h.fr.trans hf (fun b i hh hlt=>by omega),gl_fc h.gl hf (fun g v hgl hh=>hg g v hgl hh),fun p hp=> ?_,h.dj,h.nw⟩;have ho:=h.ok p hp;refine⟨ho.nm.fc hf (fun i a1 a2 hh=> ?_),ho.dg,ho.c9,ho.off⟩;obtain⟨L,hL,_⟩:=ho.nm.rcv.row (by have:=ho.nm.le;omega);rw[hh]at hL;exact hr L hL
theorem WiP.at(P:WiP s wB q nw R z zz ps pb vs f w q')(hj:j<ps.length):Lv s wB q w q' (ps.getD j (nilP 0)::(z::zz::(ps.take j++ps.drop (j+1)))) R:=by
 obtain⟨h1,_⟩:=set_split hj (nilP 0);refine P.lv.perm ?_;rw[getd hj]
 have e:z::zz::ps=(z::zz::ps.take j)++ps[j]::ps.drop (j+1):=by
  rw[List.cons_append,List.cons_append,<- h1]
 rw[e];exact List.perm_middle
theorem WiP.cell(P:WiP s wB q nw R z zz ps pb vs f w q'){w1:World}{q1:Option StkSt}{ps':List Pn}{v:Value}{f':Nat->Option Int}(hi:i<16)(hl:Lv s wB q w1 q1 (z::zz::ps') R)(hp:Pb w1 pb vs)(hn:NewS s q1 pb)(hpl:ps'.length<=16)(hg: ∀g v,Glo w1 g v->g≠pb)
 (he: ∀j,j<ps'.length->WiE (f' j) nw (ps'.getD j (nilP 0)) (if j=i then v else vs.getD j nilV))(hu: ∀j,ps'.length<=j->j<16->(if j=i then v else vs.getD j nilV)=nilV):WiP s wB q nw R z zz ps' pb (vs.set i v) f' (w1.setCell ⟨pb,i,none⟩ v) q1:=by
 have hs: ∀j,(vs.set i v).getD j nilV=if j=i then v else vs.getD j nilV:=fun j=>get_set (by rw[hp.1];exact hi)
 have hf:Fc 51 (fun b _=>b=pb) w1 (w1.setCell ⟨pb,i,none⟩ v):=Fc.setPb hp i v (fun L hr=>hp.row_ne hr rfl);exact⟨hl.far hf hn P.pn (fun L hr=>hp.row_ne hr rfl) hg,hpl,hp.set i v,P.pn,hn,fun j hj=>by rw[hs];exact he j hj,fun j h1 h2=>by rw[hs];exact hu j h1 h2⟩
theorem WiP.put(P:WiP s wB q nw R z zz ps pb vs f w q')(hi:i<ps.length)(h:PutL s wB q w q' (z::zz::(ps.take i++ps.drop (i+1))) R (ps.getD i (nilP 0)) V e w'):WiQ s wB q nw R z zz pb vs f ps.length i V w q' e w':=by
 obtain⟨p',q1,rfl,lv,nz,hv,ll,le,_,hf⟩:=h;have hp:=P.pk.put P.nps (P.at hi) hf;have hn:=P.nps.le le P.pk.lt;obtain⟨h1,h2⟩:=set_split hi p'
 have hperm:Lv s wB q w' q1 (z::zz::ps.set i p') R:=by
  refine lv.perm ?_;rw[h2];have e:z::zz::(ps.take i++p'::ps.drop (i+1))=(z::zz::ps.take i)++p'::ps.drop (i+1):=by rw[List.cons_append,List.cons_append]
  rw[e];exact(List.perm_middle (l₁:=z::zz::ps.take i) (l₂:=ps.drop (i+1)) (a:=p')).symm
 have hpl:=P.pl
 have hg: ∀g v,Glo w' g v->g≠pb:=fun g v hg=>by
  rintro rfl;have h3:=hp.cell (i:=0) (by omega);unfold Glo at hg;rw[hg]at h3;injection h3 with h3;obtain⟨l,e,_⟩:=(P.en 0 (by omega)).r (P.lv.ok _ (by rw[getd (by omega)];simp)).nm.le;rw[e]at h3;unfold Pn.r at h3;cases h3
 refine⟨p'.A,p'.xs.length,p'.c,q1,ps.set i p',rfl,hp,ll,le,by simp,P.cell (by omega) hperm hp hn (by simpa using hpl) hg (fun j hj=> ?_) (fun j h3 h4=> ?_)⟩
 ·rw[List.length_set]at hj
  by_cases hji:j=i
  ·subst hji
   rw[if_pos rfl,getd (by simpa using hj)];simp only[List.getElem_set_self];exact⟨fun V' hV=>by unfold upd at hV;rw[if_pos rfl]at hV;cases hV;exact⟨rfl,nz,hv⟩,fun hn=>by unfold upd at hn;rw[if_pos rfl]at hn;cases hn⟩
  ·rw[if_neg hji,getd (by simpa using hj),List.getElem_set_ne (fun e=>hji e.symm),<- getd hj]
   have:=P.en j hj;unfold upd;rw[if_neg hji];exact this
 ·rw[List.length_set]at h3
  rw[if_neg (by omega)];exact P.un j h3 h4
end
end Go.Proofs.YthecibbmbnpegaaGreatDoor
namespace Go.Big
theorem mul_lt4{a b C D:Int}(h1:a<C)(h2:b<D)(ha:0<=a)(hb:0<=b):a*b<C*D:=
 Int.lt_of_le_of_lt (Int.mul_le_mul_of_nonneg_left (Int.le_of_lt h2) ha) (Int.mul_lt_mul_of_pos_right h1 (by omega))
theorem pow2_words{L:Nat}(h:L<=3840):(2:Int)^L<=18446744073709551616^60:=by
 rw[<-pow_words];exact pow_le_pow_ (by omega) (by omega)
end Go.Big
namespace Go.Proofs.YthecibbmbnpegaaGreatDoor
open Go.Big Go.RowKit
theorem natOneP(w:World):Calls Tryz.prog 92 #[] w fun e w'=> ∃b,e= .returned (.slice (some ⟨b,0,none⟩) 1 1)/\Row .u64 51 w' b [1]/\w.heap.size<=b/\Fr [] w w':=by
 go_enter Tryz.func92,Tryz.ntmps92;go_wp2_with fail;go_ret;exact⟨_,rfl,Row.new w .u64 51 [1],Nat.le_refl _,(Fr.refl _ _).alloc _⟩
section
variable {s nw i j pb N L:Nat}{wB w w' w0:World}{q q' q0:Option StkSt}{V X:Int}{W R:List Pn}{z zz p p' x y:Pn}{ps:List Pn}{vs:List Value}{f f':Nat->Option Int}{e:Ending}
theorem WiP.fr(P:WiP s wB q nw R z zz ps pb vs f w q')(h:Fr [] w w'):WiP s wB q nw R z zz ps pb vs f w' q':=
 ⟨P.lv.fr0 h,P.pl,P.pk.fr h (by simp),P.pn,P.nps,P.en,P.un⟩
theorem WiP.congr(P:WiP s wB q nw R z zz ps pb vs f w q')(h: ∀j,j<ps.length->f j=f' j):WiP s wB q nw R z zz ps pb vs f' w q':=
 ⟨P.lv,P.pl,P.pk,P.pn,P.nps,fun j hj=>by rw[<-h j hj];exact P.en j hj,P.un⟩
theorem PutL.sub{W':List Pn}(h:PutL s w0 q0 w q W R z V e w')(hs:(W'++R).Sublist (W++R))(hw: ∀p,p∈W'->p∈W):PutL s w0 q0 w q W' R z V e w':=by
 obtain⟨z',q',h1,h2,h3⟩:=h
 exact⟨z',q',h1,h2.sub (by simpa using hs) (fun p hp=>by
  rw[List.mem_cons]at hp ⊢
  exact hp.imp id (hw p)),h3⟩
theorem wi_nat(P:WiP s wB q nw R z zz ps pb vs f w q')(hf:f ps.length=none)(hm:ps.length<16)(hn0:0<nw)(hn9:nw<=1000000)(hln:lenS q'<=80000000000):
 Calls Tryz.prog 55 #[.pointer (some ⟨s,0,none⟩),.int .i64 (nw:Int)] w fun e w1=> ∃A c q1 ps',e= .returned (.slice A nw c)/\Pb w1 pb vs/\lenS q1<=lenS q'+nw+3/\StkLe w.heap.size q' q1/\ps'.length=ps.length+1/\WiP s wB q nw R z zz ps' pb (vs.set ps.length (.slice A nw c)) f (w1.setCell ⟨pb,ps.length,none⟩ (.slice A nw c)) q1:=by
 refine(natL P.lv hn0 hn9 hln).mono ?_;rintro e w1 ⟨b,o,c,q1,rfl,h1,h2,lv,l1,l2,le,hf1⟩;have hp:Pb w1 pb vs:=P.pk.fc hf1 (fun i hh=>P.nps.off (b:=pb) (o:=i) (n:=1) i (Nat.le_refl _) (by omega) hh);have hn:=P.nps.le le P.pk.lt;refine⟨_,c,q1,ps++[⟨some ⟨b,o,none⟩,b,o,c,[]⟩],rfl,hp,l2,le,by simp,P.cell hm (lv.perm ?_) hp hn (by simp;omega) ?_ (fun j hj=> ?_) (fun j h3 h4=> ?_)⟩
 ·exact(List.perm_append_comm (l₁:=[(⟨some ⟨b,o,none⟩,b,o,c,[]⟩:Pn)]) (l₂:=z::zz::ps))
 ·intro g v hg
  rintro rfl;have h3:=hp.cell (i:=0) (by omega);unfold Glo at hg;rw[hg]at h3;injection h3 with h3;by_cases hp0:0<ps.length
  ·obtain⟨l,e,_⟩:=(P.en 0 hp0).r (P.lv.ok _ (by rw[getd hp0];simp)).nm.le
   rw[e]at h3;unfold Pn.r at h3;cases h3
  ·rw[P.un 0 (by omega) (by omega)]at h3
   unfold nilV at h3;cases h3
 ·rw[List.length_append,List.length_singleton]at hj
  by_cases hji:j=ps.length
  ·subst hji
   rw[if_pos rfl];have e1:(ps++[(⟨some ⟨b,o,none⟩,b,o,c,[]⟩:Pn)]).getD ps.length (nilP 0)=⟨some ⟨b,o,none⟩,b,o,c,[]⟩:=by simp[List.getD_eq_getElem?_getD]
   rw[e1];exact⟨fun V hV=>(by rw[hf]at hV;cases hV),fun _=>⟨rfl,h1⟩⟩
  ·rw[if_neg hji]
   have e1:(ps++[(⟨some ⟨b,o,none⟩,b,o,c,[]⟩:Pn)]).getD j (nilP 0)=ps.getD j (nilP 0):=by
    simp only[List.getD_eq_getElem?_getD,List.getElem?_append_left (show j<ps.length by omega)]
   rw[e1];exact P.en j (by omega)
 ·rw[List.length_append,List.length_singleton]at h3
  rw[if_neg (by omega)];exact P.un j (by omega) h4
theorem WiP.num(P:WiP s wB q nw R z zz ps pb vs f w q')(hj:j<ps.length)(hf:f j=some V):vs.getD j nilV=(ps.getD j (nilP 0)).v/\NZ (ps.getD j (nilP 0)).xs/\(ps.getD j (nilP 0)).n=V:=(P.en j hj).kn V hf
theorem WiP.ok(P:WiP s wB q nw R z zz ps pb vs f w q')(hj:j<ps.length):PnOk s q' w (ps.getD j (nilP 0)):=P.lv.ok _ (by rw[getd hj];simp)
theorem WiP.len(P:WiP s wB q nw R z zz ps pb vs f w q')(hj:j<ps.length)(hf:f j=some V){k:Nat}(hk:V<18446744073709551616^k):(ps.getD j (nilP 0)).xs.length<=k:=by
 obtain⟨_,h2,h3⟩:=P.num hj hf;exact len_le (by omega) (P.ok hj).dg h2 (by unfold Pn.n at h3;omega)
theorem mem_take{ps:List Pn}{i j:Nat}(hj:j<ps.length)(h:j<i):ps.getD j (nilP 0)∈ps.take i:=by
 rw[getd hj];exact List.mem_take_iff_getElem.2 ⟨j,by omega,rfl⟩
theorem mem_w(hm:p∈ps.take i):p∈(z::zz::(ps.take i++ps.drop (i+1)))++R:=by simp[hm]
theorem mem_p(hm:p∈ps):p∈(z::ps)++R:=by simp[hm]
theorem wi_one{b:Nat}(P:WiP s wB q nw R z zz ps pb vs f w q')(h0:0<ps.length)(hf:Fr [] w w0)(hr:Row .u64 51 w0 b [1])(hb:w.heap.size<=b):
 Calls Tryz.prog 41 #[vs.getD 0 nilV,.slice (some ⟨b,0,none⟩) 1 1] w0 (WiQ s wB q nw R z zz pb vs f ps.length 0 1 w0 q'):=by
 obtain⟨l,hv,hl⟩:=(P.en 0 h0).r (P.ok h0).nm.le;rw[hv];have h1:=(P.at h0).add (z:=⟨some ⟨b,0,none⟩,b,0,1,[1]⟩) hf (pn_new P.lv.st hf hb hr (by simp) (by simp) (by simp) (by unfold maxLen;omega) (DG.cons (by omega) (by omega) (DG.nil _))) hb;have h2:=h1.perm (List.Perm.swap (ps.getD 0 (nilP 0)) ⟨some ⟨b,0,none⟩,b,0,1,[1]⟩ _);have h3:=setL (l:=l) h2 (x:=⟨some ⟨b,0,none⟩,b,0,1,[1]⟩) (by simp) (.inr (by simp)) (by simp) hl;have e1:(⟨some ⟨b,0,none⟩,b,0,1,[1]⟩:Pn).n=1:=by unfold Pn.n;simp[val_cons,val_nil]
 rw[e1]at h3;exact h3.mono (fun e w' hp=>(P.fr hf).put h0 (hp.sub (by simp) (by intro p hp;simp only[List.mem_cons]at hp ⊢;exact .inr hp)))
theorem wi_trx(P:WiP s wB q nw R z zz ps pb vs f w q')(hi:i<ps.length)(hx:x∈R)(nx:NZ x.xs)(hx9:x.xs.length<=100000)(hL0:0<L)(hL:L<=1000000):
 Calls Tryz.prog 96 #[vs.getD i nilV,x.v,.int .u64 (L:Int)] w (WiQ s wB q nw R z zz pb vs f ps.length i (x.n%2^L) w q'):=by
 obtain⟨l,hv,hl⟩:=(P.en i hi).r (P.ok hi).nm.le;rw[hv];exact(truncL (P.at hi) (by simp[hx]) nx hx9 hL0 hL hl).mono (fun e w' hp=>P.put hi hp)
theorem wi_tri(P:WiP s wB q nw R z zz ps pb vs f w q')(hi:i<ps.length)(hf:f i=some V){k:Nat}(hk:V<18446744073709551616^k)(hk9:k<=100000)(hL0:0<L)(hL:L<=1000000):
 Calls Tryz.prog 96 #[vs.getD i nilV,vs.getD i nilV,.int .u64 (L:Int)] w (WiQ s wB q nw R z zz pb vs f ps.length i (V%2^L) w q'):=by
 obtain⟨h1,h2,h3⟩:=P.num hi hf;have h4:=P.len hi hf hk;rw[h1,<- h3];exact(truncL (P.at hi) (by simp) h2 (by omega) hL0 hL (P.ok hi).nm.le).mono (fun e w' hp=>P.put hi hp)
theorem wi_sqi(P:WiP s wB q nw R z zz ps pb vs f w q')(hi:i<ps.length)(hj:j<i)(hf:f j=some V){k:Nat}(hk:V<18446744073709551616^k)(hk9:k<80):
 Calls Tryz.prog 70 #[vs.getD i nilV,.pointer (some ⟨s,0,none⟩),vs.getD j nilV] w (WiQ s wB q nw R z zz pb vs f ps.length i (V*V) w q'):=by
 obtain⟨h1,h2,h3⟩:=P.num (j:=j) (by omega) hf;have h4:=P.len (j:=j) (by omega) hf hk;obtain⟨l,hv,hl⟩:=(P.en i hi).r (P.ok hi).nm.le;rw[h1,<- h3,hv];have hm:=mem_take (j:=j) (i:=i) (ps:=ps) (by omega) hj;exact(sqrL (P.at hi) (x:=ps.getD j (nilP 0)) (mem_w hm) (by omega) hl).mono (fun e w' hp=>P.put hi hp)
theorem wi_mulx(P:WiP s wB q nw R z zz ps pb vs f w q')(hi:i<ps.length)(hj:j<i)(hf:f j=some V){k:Nat}(hk:V<18446744073709551616^k)(hk9:k<=800)(hx:x∈R)(hx9:x.xs.length<=800):
 Calls Tryz.prog 33 #[vs.getD i nilV,.pointer (some ⟨s,0,none⟩),vs.getD j nilV,x.v] w (WiQ s wB q nw R z zz pb vs f ps.length i (V*x.n) w q'):=by
 obtain⟨h1,h2,h3⟩:=P.num (j:=j) (by omega) hf;have h4:=P.len (j:=j) (by omega) hf hk;obtain⟨l,hv,hl⟩:=(P.en i hi).r (P.ok hi).nm.le;rw[h1,<- h3,hv];have hm:=mem_take (j:=j) (i:=i) (ps:=ps) (by omega) hj;exact(mulL (P.at hi) (x:=ps.getD j (nilP 0)) (y:=x) (mem_w hm) (by simp[hx]) (by omega) hx9 hl).mono (fun e w' hp=>P.put hi hp)
theorem wi_p0(h:Lv s wB q w q' [z,zz] R):WiP s wB q nw R z zz [] w.heap.size (List.replicate 16 nilV) (fun _=>none) (w.alloc (.cells #[nilV,nilV,nilV,nilV,nilV,nilV,nilV,nilV,nilV,nilV,nilV,nilV,nilV,nilV,nilV,nilV] 112)) q':=
 ⟨h.fr0 ((Fr.refl _ _).alloc _),by simp,Pb.new w,h.fr.size,NewS.of h.st (Nat.le_refl _),fun j hj=>absurd hj (by simp),fun j _ hj=>by rw[List.getD_eq_getElem?_getD,List.getElem?_replicate,if_pos hj];rfl⟩
def WiT(s:Nat)(wB:World)(q:Option StkSt)(nw:Nat)(R:List Pn)(z zz:Pn)(pb:Nat)(f:Nat->Option Int)(w:World):Prop:=
 ∃ps vs q',ps.length=16/\WiP s wB q nw R z zz ps pb vs f w q'/\NwP wB.heap.size s q' z
theorem WiQ.t(h:WiQ s wB q nw R z zz pb vs f 16 i V w q' e w')(P:WiP s wB q nw R z zz ps pb vs f w q')(hz:NwP wB.heap.size s q' z): ∃A l c,e= .returned (.slice A l c)/\Pb w' pb vs/\WiT s wB q nw R z zz pb (upd f i V) (w'.setCell ⟨pb,i,none⟩ (.slice A l c)):=by
 obtain⟨A,l,c,q1,ps',rfl,h1,h2,h3,h4,h5⟩:=h;exact⟨A,l,c,rfl,h1,ps',_,q1,h4,h5,hz.le h3 (P.lv.lt (by simp))⟩
theorem WiT.congr(h:WiT s wB q nw R z zz pb f w)(he: ∀j,j<16->f j=f' j):WiT s wB q nw R z zz pb f' w:=by
 obtain⟨ps,vs,q',h1,h2,h3⟩:=h;exact⟨ps,vs,q',h1,h2.congr (fun j hj=>he j (by omega)),h3⟩
def fk(X:Int)(L k:Nat):Nat->Option Int:=fun j=>if j<k then some (X^j%2^L)else none
theorem fk_lt{X:Int}{L j:Nat}(hL:L<=3840):X^j%2^L<18446744073709551616^60:=Int.lt_of_lt_of_le (Int.emod_lt_of_pos _ (pow_pos_ (B:=2) (by omega) L)) (pow2_words hL)
theorem fk_nn{X:Int}{L j:Nat}:0<=X^j%2^L:=Int.emod_nonneg _ (by have:=pow_pos_ (B:=2) (by omega) L;omega)
theorem fk_sq{X:Int}{L k I:Nat}(hI:I=2*k)(V:Int)(j:Nat)(_:j<16):upd (upd (fk X L I) I V) I (X^k%2^L*(X^k%2^L)%2^L) j=fk X L (I+1) j:=by
 unfold upd fk;rcases(show j<I\/j=I\/I<j by omega)with h|h|h
 ·rw[if_neg (by omega),if_neg (by omega),if_pos h,if_pos (by omega)]
 ·rw[if_pos h,if_pos (by omega)]
  have:=sq_mod (M:=2^L) (z:=X^k%2^L) (e:=k) (x:=X) rfl rfl;rw[this,h,hI,show k+k=2*k by omega]
 ·rw[if_neg (by omega),if_neg (by omega),if_neg (by omega),if_neg (by omega)]
theorem fk_mul{X:Int}{L I:Nat}(V:Int)(j:Nat)(_:j<16):upd (upd (fk X L (I+1)) (I+1) V) (I+1) (X^I%2^L*X%2^L) j=fk X L (I+2) j:=by
 unfold upd fk;rcases(show j<I+1\/j=I+1\/I+1<j by omega)with h|h|h
 ·rw[if_neg (by omega),if_neg (by omega),if_pos h,if_pos (by omega)]
 ·rw[if_pos h,if_pos (by omega)]
  have h1:Cg (2^L) (X^I%2^L*X) (X^(I+1)):=by
   rw[Int.pow_succ];exact(Cg.emod _).mul (Cg.refl _ _)
  rw[h1.eq,h]
 ·rw[if_neg (by omega),if_neg (by omega),if_neg (by omega),if_neg (by omega)]
def WiS(s:Nat)(wB:World)(q:Option StkSt)(X:Int)(L nw:Nat)(R:List Pn)(pb:Nat)(vs:List Value)(V:Int)(k:Nat)(fl:Bool)(v0 v12:Value)(w:World):Prop:=
 ∃z zz ps l q',v0=z.v/\v12=zz.r l/\l<=zz.c/\ps.length=16/\WiP s wB q nw R z zz ps pb vs (fk X L 16) w q'/\NZ z.xs/\z.n=V/\z.xs.length<=k/\NwP wB.heap.size s q' (if fl then zz else z)
def WiO(s:Nat)(wB:World)(q:Option StkSt)(X:Int)(L nw:Nat)(R:List Pn)(pb:Nat)(vs:List Value)(V:Int)(k:Nat)(fl:Bool)(v12:Value)(e:Ending)(w:World):Prop:=
 ∃v,e= .returned v/\WiS s wB q X L nw R pb vs V k fl v v12 w
variable {k:Nat}{fl:Bool}{v0 v12:Value}
theorem wi_next(P:WiP s wB q nw R z zz ps pb vs f w q')(hp:ps.length=16)(hf:f=fk X L 16)(hz:NwP wB.heap.size s q' (if fl then zz else z))(h:PutL s wB q w q' (z::ps) R zz V e w')(hk: ∀p:Pn,DG 18446744073709551616 p.xs->NZ p.xs->p.n=V->p.xs.length<=k):WiO s wB q X L nw R pb vs V k (!fl) z.v e w':=by
 have hl0:=P.lv.perm (List.Perm.swap zz z ps);obtain⟨p',q1,rfl,lv,nz,hv,ll,le,pl,hfc⟩:=h;have hn:=P.nps.le le P.pk.lt;have hpb:=P.pk.put P.nps hl0 hfc;have hsz:=P.lv.fr.size;refine⟨p'.v,rfl,p',z,ps,z.xs.length,q1,rfl,rfl,(lv.ok z (by simp)).nm.le,hp,?_,nz,hv,hk p' (lv.ok p' (by simp)).dg nz hv,?_⟩
 ·subst hf
  exact⟨lv,P.pl,hpb,P.pn,hn,P.en,P.un⟩
 ·cases fl with
  |true=>
   simp only[Bool.not_true,if_true]at hz ⊢
   exact NwP.put hz hsz le (P.lv.lt (by simp)) pl
  |false=>
   simp only[Bool.not_false,if_true]at hz ⊢
   exact NwP.le hz le (P.lv.lt (by simp))
theorem wi_sq(h:WiS s wB q X L nw R pb vs V k fl v0 v12 w)(hk:k<80):Calls Tryz.prog 70 #[v12,.pointer (some ⟨s,0,none⟩),v0] w (WiO s wB q X L nw R pb vs (V*V) (k+k) (!fl) v0):=by
 obtain⟨z,zz,ps,l,q',rfl,rfl,hl,hp,P,nz,rfl,hzl,hz⟩:=h;have hl0:=P.lv.perm (List.Perm.swap zz z ps);refine(sqrL hl0 (x:=z) (by simp) (by omega) hl).mono (fun e w' hp'=>wi_next P hp rfl hz hp' (fun p d n v=> ?_));have:=len_mul (P.lv.ok z (by simp)).dg (P.lv.ok z (by simp)).dg d n v;omega
theorem wi_mul(h:WiS s wB q X L nw R pb vs V k fl v0 v12 w)(hk:k<=800)(hL:L<=3840){d:Nat}(hd:d<16):Calls Tryz.prog 33 #[v12,.pointer (some ⟨s,0,none⟩),v0,vs.getD d nilV] w (WiO s wB q X L nw R pb vs (V*(X^d%2^L)) (k+60) (!fl) v0):=by
 obtain⟨z,zz,ps,l,q',rfl,rfl,hl,hp,P,nz,rfl,hzl,hz⟩:=h;have hl0:=P.lv.perm (List.Perm.swap zz z ps);have hfd:fk X L 16 d=some (X^d%2^L):=if_pos hd;have hP2:=pow_pos_ (B:=2) (by omega) L;have hlt:X^d%2^L<18446744073709551616^60:=Int.lt_of_lt_of_le (Int.emod_lt_of_pos _ hP2) (pow2_words hL);obtain⟨h1,h2,h3⟩:=P.num (j:=d) (by omega) hfd;have h4:=P.len (j:=d) (by omega) hfd hlt;rw[h1,<- h3];have hm:ps.getD d (nilP 0)∈ps:=by rw[getd (by omega)];exact List.getElem_mem _
 refine(mulL hl0 (x:=z) (y:=ps.getD d (nilP 0)) (by simp) (mem_p hm) (by omega) (by omega) hl).mono (fun e w' hp'=>wi_next P hp rfl hz hp' (fun p dd n v=> ?_));have:=len_mul (P.lv.ok z (by simp)).dg (P.ok (j:=d) (by omega)).dg dd n v;omega
theorem wi_tr(h:WiS s wB q X L nw R pb vs V k fl v0 v12 w)(hk:k<=100000)(hL0:0<L)(hL:L<=3840):Calls Tryz.prog 96 #[v0,v0,.int .u64 (L:Int)] w (WiO s wB q X L nw R pb vs (V%2^L) 60 fl v12):=by
 obtain⟨z,zz,ps,l,q',rfl,rfl,hl,hp,P,nz,rfl,hzl,hz⟩:=h;refine(truncL P.lv (x:=z) (by simp) nz (by omega) hL0 (by omega) (P.lv.ok z (by simp)).nm.le).mono ?_;rintro e w' ⟨p',q1,rfl,lv,nz',hv,ll,le,pl,hfc⟩;have hn:=P.nps.le le P.pk.lt;have hpb:=P.pk.put P.nps P.lv hfc;have hsz:=P.lv.fr.size;have hP2:=pow_pos_ (B:=2) (by omega) L;refine⟨p'.v,rfl,p',zz,ps,l,q1,rfl,rfl,hl,hp,⟨lv,P.pl,hpb,P.pn,hn,P.en,P.un⟩,nz',hv,?_,?_⟩
 ·refine len_le (by omega) (lv.ok p' (by simp)).dg nz' ?_
  have h1:val 18446744073709551616 p'.xs=z.n%2^L:=hv;rw[h1];exact Int.lt_of_lt_of_le (Int.emod_lt_of_pos _ hP2) (pow2_words hL)
 ·cases fl with
  |true=>exact NwP.le hz le (P.lv.lt (by simp))
  |false=>exact NwP.put hz hsz le (P.lv.lt (by simp)) pl
theorem WiS.flag{fl':Bool}(h:WiS s wB q X L nw R pb vs V k fl v0 v12 w)(e:fl=fl'):WiS s wB q X L nw R pb vs V k fl' v0 v12 w:=by subst e;exact h
theorem WiS.mem(h:WiS s wB q X L nw R pb vs V k fl v0 v12 w)(hy:y∈R): ∃q',PnOk s q' w y:=by
 obtain⟨z,zz,ps,l,q',_,_,_,_,P,_⟩:=h;exact⟨q',P.lv.ok y (by simp[hy])⟩
theorem WiS.row(h:WiS s wB q X L nw R pb vs V k fl v0 v12 w):Pb w pb vs:=by
 obtain⟨z,zz,ps,l,q',_,_,_,_,P,_⟩:=h;exact P.pk
theorem wi_start{z:Pn}(P:WiP s wB q nw R z zz ps pb vs (fk X L 16) w q')(hp:ps.length=16)(hz:NwP wB.heap.size s q' z){l lz:Nat}(hl:l<=zz.c)(hlz:lz<=z.c):Calls Tryz.prog 46 #[z.r lz,.int .u64 1] w fun e w'=> ∃v,e= .returned v/\WiS s wB q X L nw R pb vs 1 60 false v (zz.r l) w':=by
 refine(setWordL P.lv (v:=1) (by omega) (by omega) hlz).mono ?_;rintro e w' ⟨p',q1,rfl,lv,nz,hv,ll,le,pl,hfc⟩;have hn:=P.nps.le le P.pk.lt;have hpb:=P.pk.put P.nps P.lv hfc;have hsz:=P.lv.fr.size;refine⟨p'.v,rfl,p',zz,ps,l,q1,rfl,rfl,hl,hp,⟨lv,P.pl,hpb,P.pn,hn,P.en,P.un⟩,nz,hv,?_,NwP.put hz hsz le (P.lv.lt (by simp)) pl⟩;refine len_le (by omega) (lv.ok p' (by simp)).dg nz ?_;have h1:val 18446744073709551616 p'.xs=1:=hv;have h2:=pow_le_pow_ (B:=18446744073709551616) (by omega) (show 1<=60 by omega);omega
def WuR(s:Nat)(wB:World)(q:Option StkSt)(X:Int)(L nw:Nat)(R:List Pn)(pb:Nat)(vs:List Value)(E i0:Nat)(g:Nat)(va vb vi vd:Value)(w:World):Prop:=
 ∃(i:Nat) (x:Int) (b:Bool),vi= .int .i64 x/\x=(i:Int)-1/\i<=i0+1/\g=i/\vd= .bool b/\(b=false->E/2^(64*i)=0)/\WiS s wB q X L nw R pb vs (X^(E/2^(64*i))%2^L) 60 false va vb w
def WvR(s:Nat)(wB:World)(q:Option StkSt)(X:Int)(L nw:Nat)(R:List Pn)(pb:Nat)(vs:List Value)(E i:Nat)(g:Nat)(va vb vd vy vj:Value)(w:World):Prop:=
 ∃(j J yi:Nat) (b:Bool),vj= .int .i64 (J:Int)/\J=4*j/\vy= .int .u64 (yi:Int)/\yi=E/2^(64*i)%2^64*2^(4*j)%2^64/\j<=16/\g=16-j/\vd= .bool b/\(b=false->E/2^(64*i+64-4*j)=0)/\WiS s wB q X L nw R pb vs (X^(E/2^(64*i+64-4*j))%2^L) 60 (decide (j%2=1)) va vb w
theorem WiS.val{V':Int}(h:WiS s wB q X L nw R pb vs V k fl v0 v12 w)(e:V=V'):WiS s wB q X L nw R pb vs V' k fl v0 v12 w:=by subst e;exact h
end
end Go.Proofs.YthecibbmbnpegaaGreatDoor
