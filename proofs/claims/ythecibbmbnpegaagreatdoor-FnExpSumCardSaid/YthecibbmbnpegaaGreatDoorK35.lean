/-
  Part 35 of the proof of the law FnExpSum: XBv, XMadR, XApR. Conditions: those of each statement.
-/
import Derived.Test.YthecibbmbnpegaaGreatDoorK31
import Derived.Laws.Bits64
import Derived.Deep.DeepCutAuto
import Derived.Deep.RegionWith
import Derived.ArgAppend
set_option linter.unusedSimpArgs false
set_option linter.unusedVariables false
set_option maxRecDepth 100000
set_option maxHeartbeats 2000000
namespace Go.Proofs.YthecibbmbnpegaaGreatDoor
open Go.Big Go.RowKit
def BDj(p r:Pn):Prop:=p.c=0\/r.c=0\/p.b≠r.b
theorem BDj.symm{p r:Pn}(h:BDj p r):BDj r p:=by unfold BDj at *;omega
structure Bv(s:Nat)(w0:World)(q0:Option StkSt)(w:World)(q:Option StkSt)(W R:List Pn):Prop where
 lv:Lv s w0 q0 w q W R
 nb: ∀p,p∈W->NwP w0.heap.size s q p
 bd:W.Pairwise BDj
 br: ∀p,p∈W-> ∀r,r∈R->BDj p r
section
variable {s:Nat}{w0 w w':World}{q0 q q':Option StkSt}{W W' R R':List Pn}{z z' x y:Pn}{V:Int}{e:Ending}
theorem Bv.perm(h:Bv s w0 q0 w q W R)(p:W.Perm W'):Bv s w0 q0 w q W' R:=⟨h.lv.perm p,fun r hr=>h.nb r ((p.mem_iff).2 hr),(p.pairwise_iff (fun h=>BDj.symm h)).1 h.bd,fun r hr=>h.br r ((p.mem_iff).2 hr)⟩
theorem Bv.fr0(h:Bv s w0 q0 w q W R)(f:Fr [] w w'):Bv s w0 q0 w' q W R:=⟨h.lv.fr0 f,h.nb,h.bd,h.br⟩
theorem Bv.lt(h:Bv s w0 q0 w q W R)(hx:x∈W++R):0<x.c->x.b<w.heap.size:=fun hc=>(h.lv.ok x hx).lt hc
theorem Bv.put(h:Bv s w0 q0 w q (z::W) R)(hl:Lv s w0 q0 w' q' (z'::W) R)(hle:StkLe w.heap.size q q')(hp:z'.c=0\/(z'.b=z.b/\z'.o=z.o/\z'.c=z.c)\/(w.heap.size<=z'.b/\NewS s q' z'.b)):Bv s w0 q0 w' q' (z'::W) R:=by
 have hN:=h.lv.fr.size;have hd:=h.bd;rw[List.pairwise_cons]at hd
 have key: ∀p,p∈W++R->BDj z p->BDj z' p:=fun p hp' hb=>by
  have hlt:=h.lt (x:=p) (by simp only[List.cons_append,List.mem_cons];exact .inr hp');unfold BDj at*;rcases hp with hp|⟨e1,_,e3⟩|⟨h1,_⟩
  ·exact .inl hp
  ·rw[e1,e3];exact hb
  ·by_cases hc:p.c=0
   ·exact .inr (.inl hc)
   ·have:=hlt (by omega);omega
 refine⟨hl,fun p hp'=> ?_,?_,fun p hp' r hr=> ?_⟩
 ·rcases List.mem_cons.1 hp' with rfl|hp'
  ·exact(h.nb z (by simp)).put hN hle (h.lt (by simp)) hp
  ·exact(h.nb p (List.mem_cons_of_mem _ hp')).le hle (h.lt (by simp only[List.cons_append,List.mem_cons,List.mem_append];exact .inr (.inl hp')))
 ·rw[List.pairwise_cons]
  exact⟨fun p hp'=>key p (List.mem_append_left _ hp') (hd.1 p hp'),hd.2⟩
 ·rcases List.mem_cons.1 hp' with rfl|hp'
  ·exact key r (List.mem_append_right _ hr) (h.br z (by simp) r hr)
  ·exact h.br p (List.mem_cons_of_mem _ hp') r hr
def PutB(s:Nat)(w0:World)(q0:Option StkSt)(q:Option StkSt)(W R:List Pn)(V:Int)(e:Ending)(w':World):Prop:=
 ∃z' q',e= .returned z'.v/\Bv s w0 q0 w' q' (z'::W) R/\NZ z'.xs/\z'.n=V/\lenS q'=lenS q
theorem Bv.putL(h:Bv s w0 q0 w q (z::W) R)(hp:PutL s w0 q0 w q W R z V e w'):PutB s w0 q0 q W R V e w':=by
 obtain⟨z',q',h1,h2,h3,h4,h5,h6,h7,_⟩:=hp;exact⟨z',q',h1,h.put h2 h6 h7,h3,h4,h5⟩
theorem Bv.putR(h:Bv s w0 q0 w q (z::W) R){b k:Nat}(hb:0<z.c->b=z.b)(hb0:z.c=0->w.heap.size<=b)(hp:ResR w z.A b z.o z.c (In1 b z.o k) V e w'):PutB s w0 q0 q W R V e w':=by
 obtain⟨A',b',o',c',zs,rfl,h1,h2,h3,h4,h5,h6⟩:=hp;have hzo:=h.lv.ok z (by simp);have hN:=h.lv.fr.size;have hd:=h.bd;rw[List.pairwise_cons]at hd;have hld:=h.lv.dj;rw[List.cons_append,List.pairwise_cons]at hld;have hzn:=h.nb z (by simp);have hlts:=StkAt.lt h.lv.st
 have hsne:s≠b:=by
  by_cases hc:0<z.c
  ·rw[hb hc];exact fun e=>(hzo.bs h.lv.st hc).1 e.symm
  ·have:=hb0 (by omega);omega
 have hine: ∀p,q=some p->p.si≠b:=fun p hp=>by
  by_cases hc:0<z.c
  ·rw[hb hc];exact fun e=>(hzo.bs h.lv.st hc).2 p hp e.symm
  ·have:=hb0 (by omega);have:=hlts.2 p hp;omega
 have hoff: ∀p,p∈W++R->BDj z p->0<p.c->p.b≠b:=fun p hp hb' hc=>by
  by_cases hz:0<z.c
  ·rw[hb hz];unfold BDj at hb';omega
  ·have:=hb0 (by omega)
   have:=h.lt (x:=p) (by simp only[List.cons_append,List.mem_cons];exact .inr hp) hc;omega
 have hbd: ∀p,p∈W++R->BDj z p:=fun p hp=>by
  rcases List.mem_append.1 hp with hp|hp
  ·exact hd.1 p hp
  ·exact h.br z (by simp) p hp
 have hst:StkAt w' s q:=h.lv.st.fc h6 (fun i hh=>hsne hh.1) (fun p hp i hh=>hine p hp hh.1);have hm:=h1.max;unfold maxLen at hm
 have hpl:c'=0\/(b'=z.b/\o'=z.o/\c'=z.c)\/(w.heap.size<=b'/\NewS s q b'):=by
  rcases h5 with⟨_,e2,e3,e4⟩|⟨e1,_⟩
  ·by_cases hc:0<z.c
   ·exact .inr (.inl ⟨by rw[e2,hb hc],e3,e4⟩)
   ·exact .inl (by omega)
  ·exact .inr (.inr ⟨e1,NewS.of h.lv.st e1⟩)
 have hok:PnOk s q w' ⟨A',b',o',c',zs⟩:=⟨h1,h2,by simp only;omega,by
  rcases hpl with hc|⟨e1,e2,e3⟩|⟨_,hn⟩
  ·intro i a1 a2;simp only at a1 a2;omega
  ·simp only;rw[e1,e2,e3];exact hzo.off
  ·exact hn.off⟩;refine⟨⟨A',b',o',c',zs⟩,q,rfl,h.put ⟨hst,h.lv.le,h.lv.l0,h.lv.ln,h.lv.fr.trans h6 (fun x i hh hlt=> ?_),gl_fc h.lv.gl h6 (fun g v hg hh=> ?_),fun p hp=> ?_,?_,fun p hp=> ?_⟩ (StkLe.refl _ _) hpl,h3,h4,rfl⟩
 ·exfalso
  have:=hh.1;by_cases hc:0<z.c
  ·rcases hzn with hz|⟨hz,_⟩
   ·omega
   ·have:=hb hc;omega
  ·have:=hb0 (by omega);omega
 ·by_cases hc:0<z.c
  ·exact glo_rcv hg hzo.nm.rcv hc (hh.1.trans (hb hc))
  ·have:=hb0 (by omega);have:=hg.lt;have:=hh.1;omega
 ·rw[List.cons_append,List.mem_cons]at hp
  rcases hp with rfl|hp
  ·exact hok
  ·have ho:=h.lv.ok p (by simp only[List.cons_append,List.mem_cons];exact .inr hp)
   exact⟨ho.nm.fc h6 (fun i a1 a2 hh=>by
    have:=ho.nm.le;exact hoff p hp (hbd p hp) (by omega) hh.1),ho.dg,ho.c9,ho.off⟩
 ·rw[List.cons_append,List.pairwise_cons]
  refine⟨fun p hp=> ?_,hld.2⟩;have h1:=hbd p hp;have h2:=h.lt (x:=p) (by simp only[List.cons_append,List.mem_cons];exact .inr hp);unfold PDj Dj;unfold BDj at h1;simp only;by_cases hpc:p.c=0
  ·omega
  ·have:=h2 (by omega)
   rcases hpl with hc|⟨e1,e2,e3⟩|⟨e1,_⟩<;>omega
 ·rcases List.mem_cons.1 hp with rfl|hp
  ·intro i a1 a2 hlt
   simp only at a1 a2 hlt;exfalso;rcases hpl with hc|⟨e1,e2,e3⟩|⟨e1,_⟩
   ·omega
   ·rcases hzn with hz|⟨hz,_⟩<;>omega
   ·omega
  ·exact h.lv.nw p (List.mem_cons_of_mem _ hp)
theorem Bv.rcv(h:Bv s w0 q0 w q (z::W) R): ∃b,(0<z.c->b=z.b)/\(z.c=0->w.heap.size<=b)/\Rcv w z.A b z.o z.c:=by
 have hz:=(h.lv.ok z (by simp)).nm;by_cases hc:0<z.c
 ·exact⟨z.b,fun _=>rfl,fun h0=>by omega,hz.rcv⟩
 ·exact⟨w.heap.size,fun h0=>absurd h0 hc,fun _=>Nat.le_refl _,hz.max,.inl (by omega)⟩
theorem Bv.al(h:Bv s w0 q0 w q (z::W) R)(hx:x∈z::(W++R)){b k:Nat}(hb:0<z.c->b=z.b)(hb0:z.c=0->w.heap.size<=b):0<x.xs.length->Al b z.o k x.b x.o x.xs.length:=fun hl=>by
 have ho:=h.lv.ok x hx;have hxc:0<x.c:=by have:=ho.nm.le;omega
 have hxl:=ho.lt hxc;rcases List.mem_cons.1 hx with rfl|hm
 ·exact .inr ⟨(hb hxc).symm,rfl⟩
 ·refine .inl (.inl ?_)
  have h1:BDj z x:=by
   have hd:=h.bd;rw[List.pairwise_cons]at hd;rcases List.mem_append.1 hm with hm|hm
   ·exact hd.1 x hm
   ·exact h.br z (by simp) x hm
  unfold BDj at h1;by_cases hc:0<z.c
  ·rw[hb hc];omega
  ·have:=hb0 (by omega);omega
theorem addB(h:Bv s w0 q0 w q (z::W) R)(hx:x∈z::(W++R))(hy:y∈z::(W++R))(nx:NZ x.xs)(ny:NZ y.xs)(hx9:x.xs.length<=100000)(hy9:y.xs.length<=100000){l:Nat}(hl:l<=z.c):
 Calls Tryz.prog 27 #[z.r l,x.v,y.v] w (PutB s w0 q0 q W R (x.n+y.n)):=by
 obtain⟨b,hb,hb0,hr⟩:=h.rcv;have ox:=h.lv.ok x hx;have oy:=h.lv.ok y hy;exact(naddR_any 100001 z.A l b z.o z.c x.A x.b x.o x.c x.xs y.A y.b y.o y.c y.xs w hr hl ox.nm ox.dg nx oy.nm oy.dg ny (by omega) (by omega) (by omega) ox.c9 oy.c9 (h.lv.ok z (by simp)).c9 (h.al hx hb hb0) (h.al hy hb hb0)).mono (fun e w' hh=>h.putR hb hb0 hh)
theorem subB(h:Bv s w0 q0 w q (z::W) R)(hx:x∈z::(W++R))(hy:y∈z::(W++R))(nx:NZ x.xs)(ny:NZ y.xs)(hx9:x.xs.length<=100000)(hle:y.n<=x.n){l:Nat}(hl:l<=z.c):
 Calls Tryz.prog 40 #[z.r l,x.v,y.v] w (PutB s w0 q0 q W R (x.n-y.n)):=by
 obtain⟨b,hb,hb0,hr⟩:=h.rcv;have ox:=h.lv.ok x hx;have oy:=h.lv.ok y hy;exact(nsubR_any 100001 z.A l b z.o z.c x.A x.b x.o x.c x.xs y.A y.b y.o y.c y.xs w hr hl ox.nm ox.dg nx oy.nm oy.dg ny (by omega) (by omega) ox.c9 oy.c9 (h.lv.ok z (by simp)).c9 (h.al hx hb hb0) (h.al hy hb hb0) hle).mono (fun e w' hh=>h.putR hb hb0 hh)
theorem Bv.add(h:Bv s w0 q0 w q W R)(f:Fr [] w w')(hz:PnOk s q w' z)(hb:w.heap.size<=z.b):Bv s w0 q0 w' q (z::W) R:=by
 have hN:=h.lv.fr.size
 have key: ∀p,p∈W++R->BDj z p:=fun p hp=>by
  unfold BDj;by_cases hc:p.c=0
  ·exact .inr (.inl hc)
  ·have:=h.lt hp (by omega)
   exact .inr (.inr (by omega))
 refine⟨h.lv.add f hz hb,fun p hp=> ?_,?_,fun p hp r hr=> ?_⟩
 ·rcases List.mem_cons.1 hp with rfl|hp
  ·exact .inr ⟨by omega,NewS.of h.lv.st hb⟩
  ·exact h.nb p hp
 ·rw[List.pairwise_cons]
  exact⟨fun p hp=>key p (List.mem_append_left _ hp),h.bd⟩
 ·rcases List.mem_cons.1 hp with rfl|hp
  ·exact key r (List.mem_append_right _ hr)
  ·exact h.br p hp r hr
theorem Bv.addN(h:Bv s w0 q0 w q W R){e:Ending}{w1:World}(hr:RetNm V w1 e w')(f0:Fr [] w w1): ∃z,e= .returned z.v/\Bv s w0 q0 w' q (z::W) R/\NZ z.xs/\z.n=V:=by
 obtain⟨b,c,zs,rfl,h1,h2,h3,h4,h5,h6,h7⟩:=hr;have hs:=f0.size;have hm:=h1.max;unfold maxLen at hm;exact⟨⟨some ⟨b,0,none⟩,b,0,c,zs⟩,rfl,h.add (f0.t h7) ⟨h1,h2,by simp only;omega,(NewS.of h.lv.st (show w.heap.size<=b by omega)).off⟩ (by simp only;omega),h3,h4⟩
theorem Bv.ret(h:Bv s w0 q0 w q W R)(hr:RetS s q V w e w'): ∃p q',e= .returned p.v/\Bv s w0 q0 w' q' (p::W) R/\NZ p.xs/\p.n=V/\lenS q'=lenS q:=by
 obtain⟨p,q',h1,h2,h3,h4,h5,h6,h7,h8,h9,h10⟩:=hr;have hN:=h.lv.fr.size
 have hlv:Lv s w0 q0 w' q' (p::W) R:=Lv.putN (Z:=[]) (Z':=[p]) h.lv h7 h8 h9 (h10.mono (fun b i hh _=> .inl hh)) (fun p' hp'=>by
  rw[List.mem_singleton]at hp';subst hp';exact⟨⟨h2.nm,h2.dg,h4,h6.off⟩,.inr h5⟩) (List.pairwise_singleton _ _)
 have key: ∀r,r∈W++R->BDj p r:=fun r hr=>by
  unfold BDj;by_cases hc:r.c=0
  ·exact .inr (.inl hc)
  ·have:=h.lt hr (by omega)
   exact .inr (.inr (by omega))
 refine⟨p,q',h1,⟨hlv,fun r hr=> ?_,?_,fun r hr t ht=> ?_⟩,h2.nz,h3,h9⟩
 ·rcases List.mem_cons.1 hr with rfl|hr
  ·exact .inr ⟨by omega,h6⟩
  ·exact(h.nb r hr).le h8 (h.lt (List.mem_append_left _ hr))
 ·rw[List.pairwise_cons]
  exact⟨fun r hr=>key r (List.mem_append_left _ hr),h.bd⟩
 ·rcases List.mem_cons.1 hr with rfl|hr
  ·exact key t (List.mem_append_right _ ht)
  ·exact h.br r hr t ht
theorem Bv.nil(h:Bv s w0 q0 w q W R):Bv s w0 q0 w q (nilP w.heap.size::W) R:=
 h.add (Fr.refl _ _) ⟨Nm.nil (Rcv.nil _ _ _),DG.nil _,by unfold nilP;simp only;omega,fun i a1 a2=>by unfold nilP at a1 a2;simp only at a1 a2;omega⟩ (Nat.le_refl _)
theorem mulB(h:Bv s w0 q0 w q (z::W) R)(hx:x∈W++R)(hy:y∈W++R)(hx9:x.xs.length<=800)(hy9:y.xs.length<=800){l:Nat}(hl:l<=z.c):
 Calls Tryz.prog 33 #[z.r l,.pointer (some ⟨s,0,none⟩),x.v,y.v] w (PutB s w0 q0 q W R (x.n*y.n)):=(mulL h.lv hx hy hx9 hy9 hl).mono (fun e w' hh=>h.putL hh)
theorem setB(h:Bv s w0 q0 w q (z::W) R)(hx:x∈z::(W++R))(hz:NZ x.xs)(h9:x.xs.length<=1000000){l:Nat}(hl:l<=z.c):Calls Tryz.prog 41 #[z.r l,x.v] w (PutB s w0 q0 q W R x.n):=(setL h.lv hx hz h9 hl).mono (fun e w' hh=>h.putL hh)
theorem truncB(h:Bv s w0 q0 w q (z::W) R)(hx:x∈z::(W++R))(hz:NZ x.xs)(h9:x.xs.length<=100000){n:Nat}(hn0:0<n)(hn:n<=1000000){l:Nat}(hl:l<=z.c):Calls Tryz.prog 96 #[z.r l,x.v,.int .u64 (n:Int)] w (PutB s w0 q0 q W R (x.n%2^n)):=(truncL h.lv hx hz h9 hn0 hn hl).mono (fun e w' hh=>h.putL hh)
end
end Go.Proofs.YthecibbmbnpegaaGreatDoor
namespace Go.Big
open Go.RowKit
def AppZ(k:IntKind)(T:TypeId)(w0 w:World)(v:Value)(xs:List Int):Prop:=
 (v= .slice none 0 0/\xs=[])\/ ∃g cap L,v= .slice (some ⟨g,0,none⟩) xs.length cap/\w0.heap.size<=g/\Row k T w g L/\L.length=cap/\xs.length<=cap/\cap<=maxLen/\L.take xs.length=xs
structure FrB(N:Nat)(w w':World):Prop where
 os:w'.os=w.os
 tape:w'.tape=w.tape
 output:w'.output=w.output
 size:w.heap.size<=w'.heap.size
 block: ∀b,b<N->w'.heap[b]? =w.heap[b]?
theorem FrB.fr{S:List Nat}{w0 w w1:World}(h:FrB w0.heap.size w w1)(f:Fr S w0 w):Fr S w0 w1:=⟨h.os.trans f.os,h.tape.trans f.tape,h.output.trans f.output,Nat.le_trans f.size h.size,fun b hb hn=>(h.block b hb).trans (f.block b hb hn)⟩
theorem FrB.of_fr{S:List Nat}{N:Nat}{w w1:World}(h:Fr S w w1)(hN:N<=w.heap.size)(hS: ∀b∈S,N<=b):FrB N w w1:=⟨h.os,h.tape,h.output,h.size,fun b hb=>h.block b (by omega) (fun hh=>by have:=hS b hh;omega)⟩
theorem appZ_get{L xs:List Int}{j:Nat}(h7:L.take xs.length=xs)(hj:j<xs.length):L.getD j 0=xs.getD j 0:=by
 have h:=congrArg (fun l=>l.getD j 0) h7;simp only[List.getD_eq_getElem?_getD,List.getElem?_take,if_pos hj]at h;simpa[List.getD_eq_getElem?_getD]using h
theorem AppZ.nil(k:IntKind)(T:TypeId)(w0 w:World):AppZ k T w0 w (.slice none 0 0) []:= .inl ⟨rfl,rfl⟩
theorem AppZ.sl{k:IntKind}{T:TypeId}{w0 w:World}{v:Value}{xs:List Int}(h:AppZ k T w0 w v xs):Sl k w v xs:=by
 rcases h with⟨rfl,rfl⟩|⟨g,cap,L,rfl,h2,h3,h4,h5,h6,h7⟩
 ·exact Sl.nil _ _
 ·refine⟨_,cap,rfl,h5,h6,fun hp=>⟨g,0,rfl,h3.lt,fun j hj=> ?_⟩⟩
  have:=h3.cell (i:=j) (by omega);rw[Nat.zero_add,this,appZ_get h7 hj]
theorem zeroCells_int(k:IntKind)(m:Nat):Builtin.zeroCells (Value.int k 0).cells m=((List.replicate m (0:Int)).map (Value.int k)).toArray:=by
 apply Array.toList_inj.1;rw[Builtin.zeroCells,show(Value.int k 0).cells= #[Value.int k 0]from rfl];simp[Nat.mod_one];rw[List.map_const',List.length_range]
theorem run_appZ{P:Program}{w0 w:World}{t ty T:TypeId}{k:IntKind}{bytes:Nat}(ht:IntTy P k t T bytes)(hby:bytes<=8){v:Value}{xs:List Int}(y:Int)(h:AppZ k T w0 w v xs)(hb:w0.heap.size<=w.heap.size)(hlen:xs.length<1000000):
 ∃v' w',(Builtin.append_ #[t,t] ty #[v,.slice (some ⟨w.heap.size,0,none⟩) 1 1]).run P (w.alloc (.cells #[.int k y] T))= .ok v' w'/\AppZ k T w0 w' v' (xs++[y])/\FrB w0.heap.size w w':=by
 obtain⟨ht,hi⟩:=ht
 obtain⟨i,hi,hz,hsz,hbt⟩:=info_parts hi
 have hcell: ∀j u,([Value.int k y]:List Value)[j]? =some u->(w.alloc (.cells #[.int k y] T)).cell? ((⟨w.heap.size,0,none⟩:Addr).add j)=some u:=by
  intro j u hj
  rcases Nat.eq_zero_or_pos j with rfl|hp
  ·simp at hj;subst hj;rw[show(⟨w.heap.size,0,none⟩:Addr).add 0=⟨w.heap.size,0,none⟩from rfl,World.cell?_alloc_at _ _ _ _ rfl];rfl
  ·rw[List.getElem?_eq_none (by simp;omega)]at hj;cases hj
 have hgrow: ∀(c:Nat),xs.length+1<=c->c<=maxLen-> ∀(old:List Value),old=xs.map (Value.int k)->
  AppZ k T w0 ((w.alloc (.cells #[.int k y] T)).drew.alloc (.cells (old.toArray++[Value.int k y].toArray++Builtin.zeroCells (Value.int k 0).cells (c-(xs.length+1))) T)) (.slice (some ⟨(w.alloc (.cells #[.int k y] T)).heap.size,0,none⟩) (xs.length+1) c) (xs++[y])/\
  FrB w0.heap.size w ((w.alloc (.cells #[.int k y] T)).drew.alloc (.cells (old.toArray++[Value.int k y].toArray++Builtin.zeroCells (Value.int k 0).cells (c-(xs.length+1))) T)):=by
  intro c h1 h2 old hold
  subst hold
  have e:((xs.map (Value.int k)).toArray++[Value.int k y].toArray++Builtin.zeroCells (Value.int k 0).cells (c-(xs.length+1)))=((xs++[y]++List.replicate (c-(xs.length+1)) 0).map (Value.int k)).toArray:=by
   rw[zeroCells_int];apply Array.toList_inj.1;simp
  rw[e]
  refine⟨.inr ⟨_,c,xs++[y]++List.replicate (c-(xs.length+1)) 0,by rw[List.length_append];rfl,by simp;omega,Row.new _ _ _ _,by simp;omega,by simp;omega,h2,List.take_left⟩,FrB.of_fr ((((Fr.refl [] w).alloc _).drew).alloc _) hb (by simp)⟩
 rcases h with⟨rfl,rfl⟩|⟨g,cap,L,rfl,h2,h3,h4,h5,h6,h7⟩
 ·have hr:=run_append_nil (P:=P) (w.alloc (.cells #[.int k y] T)) t ty T i (.int k 0) ht hi hz ⟨w.heap.size,0,none⟩ 1 1 [.int k y] (by rw[hsz];rfl) hcell (by omega) (by omega) (by rw[hbt];omega)
  have hg:=hgrow (grownCap (w.alloc (.cells #[.int k y] T)) 1 0 T) (grownCap_ge _ _ _ _) (grownCap_le_maxLen _ _ _ _ (by unfold maxLen;omega)) [] rfl
  simp only[List.length_nil,Nat.zero_add]at hg
  refine⟨_,_,hr,?_,?_⟩
  ·simpa using hg.1
  ·simpa using hg.2
 ·by_cases hroom:xs.length+1<=cap
  ·have hrow1:Row k T (w.alloc (.cells #[.int k y] T)) g L:=h3.alloc _
   have hr:=run_append_room (P:=P) (w.alloc (.cells #[.int k y] T)) t ty T i ht hi g xs.length cap _ hrow1 ⟨w.heap.size,0,none⟩ 1 1 [.int k y] (by rw[hsz];rfl) hcell (by intro u hu;simp at hu;subst hu;rfl) hroom (by rw[hsz];simp;omega)
   refine⟨_,_,hr,.inr ⟨g,cap,xs++[y]++L.drop (xs.length+1),by rw[List.length_append];rfl,h2,?_,by simp;omega,by simp;omega,h6,List.take_left⟩,?_⟩
   ·have:=setRow_heap _ g _ (((L.map (Value.int k)).toArray.toList.take (xs.length*i.size)++[Value.int k y]++(L.map (Value.int k)).toArray.toList.drop (xs.length*i.size+[Value.int k y].length)).toArray) T (0,0) hrow1
    unfold Row
    rw[this,hsz]
    congr 2
    apply Array.toList_inj.1
    simp[List.map_take,List.map_drop]
    rw[<-List.map_take,h7]
   ·have hS1:=(Fr.refl [] w).alloc (.cells #[.int k y] T)
    exact⟨rfl,rfl,rfl,by simp[World.setRow],fun b hb'=>by rw[setRow_other _ g b _ (by omega)];exact hS1.block b (by omega) (by simp)⟩
  ·have holds: ∀j u,(xs.map (Value.int k))[j]? =some u->(w.alloc (.cells #[.int k y] T)).cell? ((⟨g,0,none⟩:Addr).add j)=some u:=by
    intro j u hj
    rw[List.getElem?_map]at hj
    have hlt:j<xs.length:=by
     rcases Nat.lt_or_ge j xs.length with hl|hl
     ·exact hl
     ·rw[List.getElem?_eq_none hl]at hj;cases hj
    rw[List.getElem?_eq_getElem hlt]at hj
    simp only[Option.map_some,Option.some.injEq]at hj
    subst hj
    have hc:=(h3.alloc (.cells #[.int k y] T)).cell (i:=j) (by omega)
    have e2:L.getD j 0=xs[j]:=by rw[appZ_get h7 hlt,getD_in hlt]
    rw[e2]at hc
    rw[show(⟨g,0,none⟩:Addr).add j=⟨g,j,none⟩by unfold Addr.add;split<;>simp_all]
    exact hc
   have hr:=run_append_grow (P:=P) (w.alloc (.cells #[.int k y] T)) t ty T i (.int k 0) ht hi hz ⟨g,0,none⟩ xs.length cap (xs.map (Value.int k)) (by rw[hsz];simp) holds ⟨w.heap.size,0,none⟩ 1 1 [.int k y] (by rw[hsz];rfl) hcell (by omega) (by omega) (growslice_fits (by omega) (by rw[hbt];have:(xs.length+1)*bytes<=(xs.length+1)*8:=Nat.mul_le_mul_left _ hby;omega))
   have hg:=hgrow (grownCap (w.alloc (.cells #[.int k y] T)) (xs.length+1) cap T) (grownCap_ge _ _ _ _) (grownCap_le_maxLen _ _ _ _ (by unfold maxLen;omega)) _ rfl
   exact⟨_,_,hr,hg.1,hg.2⟩
theorem wp_appZ{P:Program}{ops:Array Oper}{rest:List Oper}{o:Oper}{a:Act}{Q:Exit->Act->World->Prop}{w0 w:World}(hgd:o.guard=none)(s x:Operand)(t:TypeId)(ho:o.op= .call {callee:= .builtin .append,args:= #[s,x],argTypes:= #[t,t]})
 (k:IntKind)(T:TypeId)(bytes:Nat)(ht:IntTy P k t T bytes)(hby:bytes<=8)(v:Value)(xs:List Int)(y:Int)(hs:a.eval s=v)(hz:AppZ k T w0 w v xs)(hb:w0.heap.size<=w.heap.size)(hx:a.eval x= .slice (some ⟨w.heap.size,0,none⟩) 1 1)(hlen:xs.length<1000000)
 (h: ∀v' w',AppZ k T w0 w' v' (xs++[y])->FrB w0.heap.size w w'->wpList P ops Q rest (a.put o.dst v') w'):wpList P ops Q (o::rest) a (w.alloc (.cells #[.int k y] T)):=by
 obtain⟨v',w',hr,h2,h3⟩:=run_appZ (P:=P) (t:=t) (ty:=o.type) ht hby y hz hb hlen;refine wpList_plain hgd fun _ hK=> ?_
 unfold Oper.wp execOp;simp only[ho,resolve,invoke,builtin,Sem.run_bind,Sem.run_pure,Result.andThen_ok,List.map_toArray,List.map_cons,List.map_nil,hs,hx,hr];exact hK _ _ (h v' w' h2 h3)
end Go.Big
namespace Go.Proofs.YthecibbmbnpegaaGreatDoor
open Go.Big Go.RowKit
theorem nmulAddR_any(A:Option Addr)(l b o c:Nat)(Ax:Option Addr)(bx ox cx:Nat)(xs:List Int)(y r:Int)(w:World)(h:Rcv w A b o c)(hl:l<=c)(hx:Nm w Ax bx ox cx xs)(hd:DG 18446744073709551616 xs)(hx9:xs.length<=1000000)(hal:Al b o c bx ox xs.length)(hy0:0<y)(hy1:y<18446744073709551616)(hr0:0<=r)(hr1:r<18446744073709551616):
 Calls Tryz.prog 50 #[.slice A l c,.slice Ax xs.length cx,.int .u64 y,.int .u64 r] w fun e w'=> ∃A' b' o' c' zs,e= .returned (.slice A' zs.length c')/\PutR w A b o c (val 18446744073709551616 xs*y+r) A' b' o' c' zs w':=by
 have hxc:=hx.le;have hcx:=hx.max;have hcm:=h.max;by_cases h0:xs.length=0
 ·obtain rfl:xs=[]:=List.eq_nil_of_length_eq_zero h0
  have C:=κ (setWordR_any A l b o c r w h hl hr0 hr1);unfold maxLen at hcx hcm;rw[val_nil,Int.zero_mul,Int.zero_add];simp only[List.length_nil]at*;clear h hx hd hal h0;go_enter Tryz.func50,Tryz.ntmps50;go_wp2_with (go_at_call 46;refine(C.out).mono ?_;rintro e w1 ⟨A',b',o',c',zs,rfl,hp⟩;have HP:=κ hp;clear hp);go_ret;exact⟨A',b',o',c',zs,rfl,HP.out⟩
 obtain rfl:=hx.addr (by omega);obtain⟨m,hm⟩: ∃m,m=xs.length:=⟨_,rfl⟩;have hy0':(y==0)=false:=by rw[beq_eq_false_iff_ne];omega
 have hlt:=hx.lt (by omega);have HM:=κ (makeR_any A l b o c (m+1) w h hl (by omega) (by omega));have HR:=κ h;have HX:=κ hx;have HAL:=κ hal
 have CV: ∀(z o1 c1:Nat) (Z:List Int) (W:World),Fr [] w W->Wr 51 W z o1 Z->Z.length=m+1->(Dj bx ox m z o1 m\/(bx=z/\o1<=ox))->
  Calls Tryz.prog 81 #[.slice (some ⟨z,o1,none⟩) m c1,.slice (some ⟨bx,ox,none⟩) m cx,.int .u64 y,.int .u64 r] W (VecW W z o1 m (fun zs k=>0<=k/\k<18446744073709551616/\val 18446744073709551616 zs+18446744073709551616^m*k=val 18446744073709551616 xs*y+r)):=
  fun z o1 c1 Z W f hz hZ hne=>mulAddVWWw_any z o1 c1 bx ox cx m (Z.take m) xs y r W (hz.take m (by omega)) (by rw[List.length_take];omega) hm.symm ((hx.fr0 f).2.2 (by omega)) hd hne (by omega) (by omega) hy1 hr0 hr1
 have HC:=κ CV;have HMM:=κ hm;have hm0:((m:Int)==0)=false:=by rw[beq_eq_false_iff_ne];omega
 have hw:IntKind.i64.wrap ((m:Int)+1)=((m+1:Nat):Int):=by rw[IntKind.wrap_i64];omega
 unfold maxLen at hcx hcm;rw[<-hm]at hxc hx9 h0 ⊢
 clear h hx hd hal hm CV;go_enter Tryz.func50,Tryz.ntmps50
 go_wp2_with (first
  |(go_at_call 42;refine(HM.out).mono ?_;clear HM;intro e w1 hm;obtain⟨z,o1,c1,Z,rfl,h1,h2,h3,h4,h5,h6,h7⟩:=hm.out (fun hc=>HR.out.lt hc);have H2:=κ h2;have H3:=κ h3;have H4:=κ h4;have H5:=κ h5;have H7:=κ h7;have hcm1:c1<=9223372036854775807:=(by have:=h2.1;unfold maxLen at this;omega);have HNE:=κ (show Dj bx ox m z o1 m\/(bx=z/\o1<=ox)by rcases h7 with⟨_,e1,e2,e3⟩|⟨a,_⟩;(subst e1;subst e2;subst e3;have h8:=HAL.out;rw[<-HMM.out]at h8;rcases h8 with h8|⟨h8,h9⟩;exact .inl (h8.sub1 (Nat.le_refl _) (by omega));exact .inr ⟨h8,by omega⟩);exact .inl (.inl (by omega)));clear hm h2 h3 h4 h5 h6 h7)
  |(go_at_call 81;refine(HC.out z o1 c1 Z _ H5.out H3.out H4.out HNE.out).mono ?_;rintro e w2 ⟨zs,k,rfl,hz2,f2,hzl,hzd,hk0,hk1,hv⟩;obtain⟨hfz,⟨old,cold⟩,u1,u2⟩:=snoc_put k H3.out H4.out hz2 hzl f2;have U1:=κ u1;have U2:=κ u2;have HZL:=κ hzl;have HZD:=κ hzd;have HV:=κ hv;clear hz2 f2 hzl hzd hv u1 u2)
  |(go_at_call 34;have ZL4:=κ (show(zs++[k]).length=m+1 by rw[List.length_append,HZL.out];rfl);have CN:=normN_any (some ⟨z,o1,none⟩) z o1 c1 (zs++[k]) _ (Nm.of_wr U1.out (H2.out.fc U2.out) (by rw[ZL4.out];exact h1)) (HZD.out.append (DG.cons hk0 hk1 (DG.nil _)));rw[ZL4.out]at CN;refine CN.mono ?_;rintro e w5 ⟨⟨us,rfl,g1,g2,g3,g4,g5⟩,rfl⟩;have G1:=κ g1;have G2:=κ g2;have G3:=κ g3;have G4:=κ g4;clear g1 g2 g3 g4 g5 CN));go_ret;have hv:val 18446744073709551616 (zs++[k])=val 18446744073709551616 xs*y+r:=by rw[val_snoc,HZL.out];exact HV.out
 refine⟨_,z,o1,c1,us,rfl,G1.out,G2.out,G3.out,G4.out.trans hv,H7.out.imp id (fun a=>⟨a.1,by have:=a.2;omega⟩),(Fc.fr0 H5.out _ _).trans U2.out (fun x i hh hlt=> ?_)⟩;rcases H7.out with⟨_,rfl,rfl,rfl⟩|⟨a,_⟩
 ·exact In1.cap hh h1
 ·have:=hh.1;omega
def AppP(w:World)(A:Option Addr)(b o c:Nat)(zs:List Int)(v':Value)(w':World):Prop:=
 ∃A' b' o' c',v'= .slice A' zs.length c'/\Nm w' A' b' o' c' zs/\((A'=A/\b'=b/\o'=o/\c'=c)\/w.heap.size<=b')/\Fc 51 (In1 b o c) w w'
section
variable {w:World}{A:Option Addr}{b o c:Nat}{xs:List Int}
theorem run_appR{ty:TypeId}(h:Nm w A b o c xs)(hp:0<xs.length)(hlen:xs.length<1000000)(y:Int):
 ∃v' w',(Builtin.append_ #[43,43] ty #[.slice A xs.length c,.slice (some ⟨w.heap.size,0,none⟩) 1 1]).run Tryz.prog (w.alloc (.cells #[.int .u64 y] 51))= .ok v' w'/\AppP w A b o c (xs++[y]) v' w':=by
 obtain⟨ht,hi⟩:=ty_big;obtain⟨i,hi,hz,hsz,hbt⟩:=info_parts hi
 have hcell: ∀j u,([Value.int .u64 y]:List Value)[j]? =some u->(w.alloc (.cells #[.int .u64 y] 51)).cell? ((⟨w.heap.size,0,none⟩:Addr).add j)=some u:=by
  intro j u hj;rcases Nat.eq_zero_or_pos j with rfl|hp
  ·simp at hj;subst hj;rw[show(⟨w.heap.size,0,none⟩:Addr).add 0=⟨w.heap.size,0,none⟩from rfl,World.cell?_alloc_at _ _ _ _ rfl];rfl
  ·rw[List.getElem?_eq_none (by simp;omega)]at hj;cases hj
 obtain rfl:=h.addr hp;have hle:=h.le;have hF:=(Fr.refl [] w).alloc (.cells #[.int .u64 y] 51);have h1:=h.fr0 hF;by_cases hroom:xs.length+1<=c
 ·obtain⟨Z,hZ,hZl⟩:=h1.rcv.wr hroom (by omega)
  obtain⟨hfz,⟨old,cold⟩,u1,u2⟩:=snoc_put y hZ hZl (h1.wr hp) rfl (Fc.refl _ _ _)
  have hr:=run_append_room_cells (P:=Tryz.prog) (w.alloc (.cells #[.int .u64 y] 51)) 43 ty 51 i ht hi b o xs.length c ⟨w.heap.size,0,none⟩ 1 1 [.int .u64 y] (by rw[hsz];rfl) hcell (by intro u hu;simp at hu;subst hu;rfl) hroom (by
   intro j hj;simp at hj;subst hj;rw[hsz,Nat.mul_one,Nat.add_zero,cold];rfl) (by
   intro j hj;simp at hj;subst hj;rw[hsz,Nat.mul_one,Nat.add_zero];exact hfz);refine⟨_,_,hr,some ⟨b,o,none⟩,b,o,c,by rw[List.length_append];rfl,?_,.inl ⟨rfl,rfl,rfl,rfl⟩,?_⟩
  ·rw[hsz,Nat.mul_one]
   exact Nm.of_wr u1 (h1.rcv.fc u2) (by simp;omega)
  ·rw[hsz,Nat.mul_one]
   exact(Fc.fr0 hF _ _).t (u2.mono (fun b' i' hh _=>In1.cap hh (by omega)))
 ·have holds: ∀j u,(xs.map (Value.int .u64))[j]? =some u->(w.alloc (.cells #[.int .u64 y] 51)).cell? ((⟨b,o,none⟩:Addr).add j)=some u:=by
   intro j u hj;rw[List.getElem?_map]at hj
   have hlt:j<xs.length:=by
    rcases Nat.lt_or_ge j xs.length with hl|hl
    ·exact hl
    ·rw[List.getElem?_eq_none hl]at hj;cases hj
   rw[List.getElem?_eq_getElem hlt]at hj;simp only[Option.map_some,Option.some.injEq]at hj;subst hj;have hc:=h1.2.2 hp j hlt;rw[Go.Big.getD_in hlt]at hc;rw[show(⟨b,o,none⟩:Addr).add j=⟨b,o+j,none⟩by unfold Addr.add;split<;>simp_all];exact hc
  have hr:=run_append_grow (P:=Tryz.prog) (w.alloc (.cells #[.int .u64 y] 51)) 43 ty 51 i (.int .u64 0) ht hi hz ⟨b,o,none⟩ xs.length c (xs.map (Value.int .u64)) (by rw[hsz];simp) holds ⟨w.heap.size,0,none⟩ 1 1 [.int .u64 y] (by rw[hsz];rfl) hcell (by omega) (by omega) (growslice_fits (by omega) (by rw[hbt];have:(xs.length+1)*8<=1000000*8:=Nat.mul_le_mul_right _ (by omega);omega));have g1:=grownCap_ge (w.alloc (.cells #[.int .u64 y] 51)) (xs.length+1) c 51;have g2:=grownCap_le_maxLen (w.alloc (.cells #[.int .u64 y] 51)) (xs.length+1) c 51 (by unfold maxLen;omega);generalize grownCap (w.alloc (.cells #[.int .u64 y] 51)) (xs.length+1) c 51=cc at*
  have e:((xs.map (Value.int .u64)).toArray++[Value.int .u64 y].toArray++Builtin.zeroCells (Value.int .u64 0).cells (cc-(xs.length+1)))=((xs++[y]++List.replicate (cc-(xs.length+1)) 0).map (Value.int .u64)).toArray:=by
   rw[zeroCells_int];apply Array.toList_inj.1;simp
  rw[e]at hr;have hf2:Fr [] w ((w.alloc (.cells #[.int .u64 y] 51)).drew.alloc (.cells ((xs++[y]++List.replicate (cc-(xs.length+1)) 0).map (Value.int .u64)).toArray 51)):=(hF.drew).alloc _;have hrow:=Row.new (w.alloc (.cells #[.int .u64 y] 51)).drew .u64 51 (xs++[y]++List.replicate (cc-(xs.length+1)) 0);refine⟨_,_,hr,_,(w.alloc (.cells #[.int .u64 y] 51)).drew.heap.size,0,cc,by rw[List.length_append];rfl,Nm.of_wr (Wr.of_row hrow (by simp) (fun j hj=> ?_)) (Rcv.of_row hrow (by simp;omega) g2) (by simp;omega),.inr hF.size,Fc.fr0 hf2 _ _⟩;rw[Nat.zero_add];simp only[List.getD_eq_getElem?_getD];rw[List.getElem?_append_left hj]
theorem wp_appR{ops:Array Oper}{rest:List Oper}{op:Oper}{a:Act}{Q:Exit->Act->World->Prop}(hgd:op.guard=none)(s x:Operand)(ho:op.op= .call {callee:= .builtin .append,args:= #[s,x],argTypes:= #[43,43]})
 (h:Nm w A b o c xs)(hp:0<xs.length)(hlen:xs.length<1000000)(y:Int)(hs:a.eval s= .slice A xs.length c)(hx:a.eval x= .slice (some ⟨w.heap.size,0,none⟩) 1 1)
 (hK': ∀v' w',AppP w A b o c (xs++[y]) v' w'->wpList Tryz.prog ops Q rest (a.put op.dst v') w'):wpList Tryz.prog ops Q (op::rest) a (w.alloc (.cells #[.int .u64 y] 51)):=by
 obtain⟨v',w',hr,h2⟩:=run_appR (ty:=op.type) h hp hlen y;refine wpList_plain hgd fun _ hK=> ?_
 unfold Oper.wp execOp;simp only[ho,resolve,invoke,builtin,Sem.run_bind,Sem.run_pure,Result.andThen_ok,List.map_toArray,List.map_cons,List.map_nil,hs,hx,hr];exact hK _ _ (hK' v' w' h2)
end
end Go.Proofs.YthecibbmbnpegaaGreatDoor
