/-
  Part 7 of the proof of the law FnExpSum: XgStk. Conditions: those of each statement.
-/
import Derived.Test.YthecibbmbnpegaaGreatDoorK06
import Derived.Lib.AppendZerosOnto
import Derived.Defers
import Derived.Lib.QuoteBits
import Derived.Laws.BitsAllLaws
import Derived.LaidEqlPtr
import Derived.Laws.Bits64
set_option linter.unusedSimpArgs false
set_option linter.unusedVariables false
set_option maxRecDepth 100000
set_option maxHeartbeats 2000000
section
namespace Go.Big
open Go.RowKit
structure Fc(T:TypeId)(S:Nat->Nat->Prop)(w w':World):Prop where
 os:w'.os=w.os
 tape:w'.tape=w.tape
 output:w'.output=w.output
 size:w.heap.size<=w'.heap.size
 block: ∀b,b<w.heap.size->(∀i,¬ S b i)->w'.heap[b]? =w.heap[b]?
 cell: ∀b i,b<w.heap.size-> ¬S b i->w'.cell? ⟨b,i,none⟩=w.cell? ⟨b,i,none⟩
 row: ∀b L,Row .u64 T w b L-> ∃L',Row .u64 T w' b L'/\L'.length=L.length
section
variable {T:TypeId}{S S':Nat->Nat->Prop}{w w1 w2:World}{b off:Nat}{xs L:List Int}{k:IntKind}
theorem Fc.refl(T:TypeId)(S:Nat->Nat->Prop)(w:World):Fc T S w w:=⟨rfl,rfl,rfl,Nat.le_refl _,fun _ _ _=>rfl,fun _ _ _ _=>rfl,fun _ L h=>⟨L,h,rfl⟩⟩
theorem Fc.trans(h:Fc T S w w1)(h':Fc T S' w1 w2)(hS: ∀b i,S' b i->b<w.heap.size->S b i):Fc T S w w2:=
 ⟨h'.os.trans h.os,h'.tape.trans h.tape,h'.output.trans h.output,Nat.le_trans h.size h'.size,
   fun b hb hn=>(h'.block b (Nat.lt_of_lt_of_le hb h.size) (fun i hm=>hn i (hS b i hm hb))).trans (h.block b hb hn),
   fun b i hb hn=>(h'.cell b i (Nat.lt_of_lt_of_le hb h.size) (fun hm=>hn (hS b i hm hb))).trans (h.cell b i hb hn),
   fun b L hr=>by
    obtain⟨L1,h1,l1⟩:=h.row b L hr;obtain⟨L2,h2,l2⟩:=h'.row b L1 h1;exact⟨L2,h2,l2.trans l1⟩⟩
theorem Fc.mono(h:Fc T S w w1)(hS: ∀b i,S b i->b<w.heap.size->S' b i):Fc T S' w w1:=(Fc.refl T S' w).trans h hS
theorem Fc.t(h:Fc T S w w1)(h':Fc T S w1 w2):Fc T S w w2:=h.trans h' (fun _ _ h _=>h)
theorem Fc.fr0(h:Fr [] w w1)(T:TypeId)(S:Nat->Nat->Prop):Fc T S w w1:=
 ⟨h.os,h.tape,h.output,h.size,fun b hb _=>h.block b hb (by simp),fun b i hb _=>h.cell (p:=⟨b,i,none⟩) hb (by simp),fun b L hr=>⟨L,hr.fr h (by simp),rfl⟩⟩
theorem Fc.of_row{L':List Int}(h:Fr [b] w w1)(hr:Row .u64 T w b L)(hr':Row .u64 T w1 b L')(hl:L'.length=L.length)(he: ∀i,¬ S b i->L'.getD i 0=L.getD i 0):Fc T S w w1:=by
 refine⟨h.os,h.tape,h.output,h.size,fun c hc hn=> ?_,fun c i hc hn=> ?_,fun c M hM=> ?_⟩
 ·by_cases e:c=b
  ·subst e
   have:L'=L:=List.ext_getElem hl (fun i h1 h2=>by have:=he i (hn i);rwa[getD_in h1,getD_in h2]at this);subst this;exact hr'.trans hr.symm
  ·exact h.block c hc (by simpa using e)
 ·by_cases e:c=b
  ·subst e
   by_cases hi:i<L.length
   ·rw[hr.cell hi,hr'.cell (by omega),he i hn]
   ·unfold Row at hr hr'
    unfold World.cell?;rw[hr,hr'];simp[hl,hi]
  ·exact h.cell (p:=⟨c,i,none⟩) hc (by simpa using e)
 ·by_cases e:c=b
  ·subst e
   obtain rfl:=hM.eq hr;exact⟨L',hr',hl⟩
  ·exact⟨M,hM.fr h (by simpa using e),rfl⟩
theorem Fc.of_fr{B:List Nat}(h:Fr B w w1)(hB: ∀b,b∈B->b<w.heap.size-> ∀i,S b i)(hT: ∀b,b∈B-> ∀L,¬ Row .u64 T w b L):Fc T S w w1:=
 ⟨h.os,h.tape,h.output,h.size,fun b hb hn=>h.block b hb (fun hm=>hn 0 (hB b hm hb 0)),fun b i hb hn=>h.cell (p:=⟨b,i,none⟩) hb (fun hm=>hn (hB b hm hb i)),fun b L hr=>⟨L,hr.fr h (fun hm=>hT b hm L hr),rfl⟩⟩
theorem spl_getD_out{L zs:List Int}{o i:Nat}(hL:o+zs.length<=L.length)(h: ¬(o<=i/\i<o+zs.length)):(spl L o zs).getD i 0=L.getD i 0:=by
 have ht:(L.take o).length=o:=by rw[List.length_take];omega
 simp only[List.getD_eq_getElem?_getD];unfold spl;by_cases hi:i<o
 ·rw[List.getElem?_append_left (by omega)]
  simp[hi]
 ·rw[List.getElem?_append_right (by omega),List.getElem?_append_right (by omega),ht,List.getElem?_drop]
  congr 2;omega
theorem Fc.of_spl{zs:List Int}{o:Nat}(h:Fr [b] w w1)(hr:Row .u64 T w b L)(hr':Row .u64 T w1 b (spl L o zs))(hl:o+zs.length<=L.length)(hS: ∀i,o<=i->i<o+zs.length->S b i):Fc T S w w1:=
 Fc.of_row h hr hr' (spl_len hl) (fun i hi=>spl_getD_out hl (fun hh=>hi (hS i hh.1 hh.2)))
theorem Src.fc(h:Src k w b off xs)(hf:Fc T S w w1)(hS: ∀i,off<=i->i<off+xs.length-> ¬S b i):Src k w1 b off xs:=fun j hj=>by
 have hc:=h j hj
 have hb:b<w.heap.size:=by
  rcases Nat.lt_or_ge b w.heap.size with hlt|hge
  ·exact hlt
  ·unfold World.cell? at hc;simp only at hc;rw[Array.getElem?_eq_none hge]at hc;cases hc
 rw[hf.cell b (off+j) hb (hS _ (by omega) (by omega))];exact hc
theorem Row.fc(h:Row .u64 T w b L)(hf:Fc T S w w1): ∃L',Row .u64 T w1 b L'/\L'.length=L.length/\ ∀i,¬ S b i->L'.getD i 0=L.getD i 0:=by
 obtain⟨L',h1,h2⟩:=hf.row b L h;refine⟨L',h1,h2,fun i hi=> ?_⟩;by_cases hl:i<L.length
 ·have:=hf.cell b i h.lt hi
  rw[h.cell hl,h1.cell (by omega)]at this;simpa using this
 ·rw[getD_out (by omega),getD_out (by omega)]
end
end Go.Big
namespace Go.Proofs.YthecibbmbnpegaaGreatDoor
open Go.Big Go.RowKit
def GrownRow(T:TypeId)(L:List Int)(l n:Nat)(w:World)(e:Ending)(w':World):Prop:=
 ∃g c,e= .returned (.slice (some ⟨g,0,none⟩) l c)/\l+n<=c/\c<=maxLen/\L.length<=c/\w.heap.size<=g/\Row .u64 T w' g (L++List.replicate (c-L.length) 0)/\Fr [] w w'
theorem grown_rowed(T:TypeId)(w:World)(L:List Int)(n c:Nat)(h:L.length+n<=c):
 Row .u64 T (w.drew.alloc (.cells ((L.map (Value.int .u64)).toArray++Builtin.zeroCells (Value.int .u64 0).cells n++Builtin.zeroCells (Value.int .u64 0).cells (c-(L.length+n))) T)) w.heap.size (L++List.replicate (c-L.length) 0):=by
 have h1:=Row.new w.drew .u64 T (L++List.replicate (c-L.length) 0)
 have e:((L++List.replicate (c-L.length) 0).map (Value.int .u64)).toArray=(L.map (Value.int .u64)).toArray++Builtin.zeroCells (Value.int .u64 0).cells n++Builtin.zeroCells (Value.int .u64 0).cells (c-(L.length+n)):=by
  have hz: ∀m,Builtin.zeroCells (Value.int .u64 0).cells m=((List.replicate m (0:Int)).map (Value.int .u64)).toArray:=fun m=>by
   apply Array.toList_inj.1;rw[Builtin.zeroCells,show(Value.int .u64 0).cells= #[Value.int .u64 0]from rfl];simp[Nat.mod_one];rw[List.map_const',List.length_range]
  rw[hz,hz];apply Array.toList_inj.1;rw[show c-L.length=n+(c-(L.length+n))by omega,<- List.replicate_append_replicate];simp
 rw[e]at h1;exact h1
theorem growN_nil(n:Nat)(w:World)(hn0:0<n)(hn:n<=1000000000):Calls Tryz.prog 87 #[.slice none 0 0,.int .i64 n] w (GrownRow 51 [] 0 n w):=by
 obtain⟨ti,hi,hz,hsz,hb⟩:=info_parts (ty_big).2
 have hrz: ∀ty,(Builtin.append_ #[43,3] ty #[.slice none 0 0,.int .i64 (n:Int)]).run Tryz.prog w=_:=fun ty=>
  Lib.run_append_grow_zeros w 43 3 ty 51 ti (.int .u64 0) .i64 .i64 Tryz.underlying43 Tryz.underlying3 hi hz none 0 0 [] (run_firstCells_none w.drew ti.size 0 0 0) n hn0 (by omega) (by omega) (by omega)
   (by rw[hb];omega) (growslice_fits (by omega) (by rw[hb];omega))
 have hG1:=grownCap_ge w (0+n) 0 51;have hG2:=grownCap_le_maxLen w (0+n) 0 51 (by unfold maxLen;omega);have hR:=grown_rowed 51 w [] n (grownCap w (0+n) 0 51) (by simpa using hG1);simp only[List.length_nil]at hR;obtain⟨G,hG⟩: ∃G,G=grownCap w (0+n) 0 51:=⟨_,rfl⟩;simp only[<-hG]at hrz hR hG1 hG2;obtain⟨W,hW⟩: ∃W,W=w.drew.alloc (.cells (([]:List Value).toArray++Builtin.zeroCells (Value.int .u64 0).cells n++Builtin.zeroCells (Value.int .u64 0).cells (G-(0+n))) 51):=⟨_,rfl⟩;have hF:Fr [] w W:=by rw[hW];exact((Fr.refl _ _).drew).alloc _
 simp only[List.map_nil]at hR;rw[<-hW]at hR;simp only[<-hW]at hrz;have HRZ:=κ hrz;have HR:=κ hR;have HF:=κ hF;have h3:IntKind.i64.wrap ((n:Int)-0)=(n:Int):=by rw[IntKind.wrap_i64];omega
 have hG63:G<=9223372036854775807:=by unfold maxLen at hG2;omega
 have hGi:(0:Int)<=(G:Int):=by omega
 clear hrz hR hF hW hG hi hz hsz hb;go_enter Tryz.func87,Tryz.ntmps87;go_wp2_with (at_builtin;refine Lib.wpList_append_run _ rfl _ _ _ _ rfl _ _ rfl rfl _ _ (HRZ.out _) ?_);go_ret;exact⟨w.heap.size,G,by first|rfl|(simp),by omega,hG2,by simp,Nat.le_refl _,HR.out,HF.out⟩
theorem growW_room(A:Option Addr)(l c n:Nat)(w:World)(hlc:l<=c)(hc:c<=maxLen)(hroom:l+n<=c):
 Calls Tryz.prog 118 #[.slice A l c,.int .i64 n] w fun e w'=>e= .returned (.slice A l c)/\w=w':=by
 unfold maxLen at hc;have h2:IntKind.i64.wrap ((c:Int)-(l:Int))=(c:Int)-(l:Int):=by rw[IntKind.wrap_i64];omega
 have h3:IntKind.i64.wrap ((n:Int)-((c:Int)-(l:Int)))=(n:Int)-((c:Int)-(l:Int)):=by rw[IntKind.wrap_i64];omega
 have h4: ¬(0<(n:Int)-((c:Int)-(l:Int))):=by omega
 go_enter Tryz.func118,Tryz.ntmps118;go_wp2_with fail;go_ret;exact⟨rfl,rfl⟩
theorem growW_new(A:Option Addr)(l n:Nat)(L:List Int)(w:World)(hlc:l<=L.length)(hroom:L.length<l+n)(hn:l+n<=1000000000000)(hA:0<L.length-> ∃b,A=some ⟨b,0,none⟩/\Row .u64 51 w b L):
 Calls Tryz.prog 118 #[.slice A l L.length,.int .i64 n] w (GrownRow 51 L l n w):=by
 obtain⟨ti,hi,hz,hsz,hb⟩:=info_parts (ty_big).2;obtain⟨c,hc⟩: ∃c,c=L.length:=⟨_,rfl⟩;rw[<-hc]at hlc hroom hA ⊢
 have hold:(Builtin.firstCells ti.size c (.slice A c c)).run Tryz.prog w.drew= .ok (L.map (Value.int .u64)).toArray w.drew:=by
  rcases Nat.eq_zero_or_pos c with h0|h0
  ·have:L=[]:=List.eq_nil_of_length_eq_zero (by omega)
   subst this h0;cases A with
   |none=>exact run_firstCells_none w.drew ti.size 0 0 0
   |some a=>exact run_firstCells_some w.drew ti.size 0 a 0 0 [] (by simp) (by simp)
  ·obtain⟨b,rfl,hr⟩:=hA h0
   refine run_firstCells_some w.drew ti.size c _ c c (L.map (Value.int .u64)) (by rw[hsz];simp;omega) (fun j v hj=> ?_)
   have hj2:j<L.length:=by
    rcases Nat.lt_or_ge j L.length with h|h
    ·exact h
    ·rw[List.getElem?_eq_none (by simpa using h)]at hj;cases hj
   have hcell:=(hr.drew).cell hj2;rw[List.getElem?_map,List.getElem?_eq_getElem hj2]at hj;simp only[Option.map_some,Option.some.injEq]at hj;subst hj;rw[getD_in hj2]at hcell;unfold Addr.add;split
   ·rename_i e;subst e;exact hcell
   ·simpa using hcell
 have hck:c+(l+n-c)=l+n:=by omega
 have hrz: ∀ty,(Builtin.append_ #[42,3] ty #[.slice A c c,.int .i64 ((l+n-c:Nat):Int)]).run Tryz.prog w=_:=fun ty=>
  Lib.run_append_grow_zeros w 42 3 ty 51 ti (.int .u64 0) .i64 .i64 Tryz.underlying42 Tryz.underlying3 hi hz A c c (L.map (Value.int .u64)) hold (l+n-c) (by omega) (by omega) (by omega) (by omega)
   (by rw[hb];omega) (growslice_fits (by omega) (by rw[hb];omega))
 simp only[hck]at hrz;have hG1:=grownCap_ge w (l+n) c 51;have hG2:=grownCap_le_maxLen w (l+n) c 51 (by unfold maxLen;omega);have hR:=grown_rowed 51 w L (l+n-c) (grownCap w (l+n) c 51) (by omega);rw[<-hc,hck]at hR;obtain⟨G,hG⟩: ∃G,G=grownCap w (l+n) c 51:=⟨_,rfl⟩;simp only[<-hG]at hrz hR hG1 hG2;obtain⟨W,hW⟩: ∃W,W=w.drew.alloc (.cells ((L.map (Value.int .u64)).toArray++Builtin.zeroCells (Value.int .u64 0).cells (l+n-c)++Builtin.zeroCells (Value.int .u64 0).cells (G-(l+n))) 51):=⟨_,rfl⟩;have hF:Fr [] w W:=by rw[hW];exact((Fr.refl _ _).drew).alloc _
 rw[<-hW]at hR;simp only[<-hW]at hrz;have HRZ:=κ hrz;have HR:=κ hR;have HF:=κ hF;have h2:IntKind.i64.wrap ((c:Int)-(l:Int))=(c:Int)-(l:Int):=by rw[IntKind.wrap_i64];omega
 have h3:IntKind.i64.wrap ((n:Int)-((c:Int)-(l:Int)))=((l+n-c:Nat):Int):=by rw[IntKind.wrap_i64];omega
 have h4:(0:Int)<((l+n-c:Nat):Int):=by omega
 have hG63:G<=9223372036854775807:=by unfold maxLen at hG2;omega
 have HC:=κ hc;obtain⟨k,hk⟩: ∃k,k=l+n-c:=⟨_,rfl⟩;rw[<-hk]at h3 h4 HRZ;clear hrz hR hF hW hG hi hz hsz hb hold hck hc hk hA;go_enter Tryz.func118,Tryz.ntmps118;cases A with
 |none=>
  go_wp2_with (at_builtin;refine Lib.wpList_append_run _ rfl _ _ _ _ rfl _ _ rfl rfl _ _ (HRZ.out _) ?_);all_goals (go_ret;exact⟨w.heap.size,G,rfl,by omega,hG2,by rw[<-HC.out];omega,Nat.le_refl _,by rw[<-HC.out];exact HR.out,HF.out⟩)
 |some a=>
  obtain⟨ab,ao,asp⟩:=a;go_wp2_with (at_builtin;refine Lib.wpList_append_run _ rfl _ _ _ _ rfl _ _ rfl rfl _ _ (HRZ.out _) ?_);all_goals (go_ret;exact⟨w.heap.size,G,rfl,by omega,hG2,by rw[<-HC.out];omega,Nat.le_refl _,by rw[<-HC.out];exact HR.out,HF.out⟩)
end Go.Proofs.YthecibbmbnpegaaGreatDoor
end
section
namespace Go.Big
def bodyPostN(P:Program)(fn:Func)(R:Ending->World->Prop):Exit->Act->World->Prop
 | .normal,a,w| .ret,a,w=>Leaves P fn a.tmps R a.defers .returning w
 | .outgrown,_,w=>R .outgrown w
 |_,_,_=>False
theorem bodyPostN_D{P:Program}{fn:Func}{R:Ending->World->Prop}: ∀e a w,bodyPostN P fn R e a w->bodyPostD P fn R e a w:=by
 intro e a w h;cases e<;>first|exact h|exact h.elim
end Go.Big
namespace Go.Proofs.YthecibbmbnpegaaGreatDoor
open Go.Big Go.RowKit
structure StkSt where
 si:Nat
 g:Nat
 len:Nat
 cap:Nat
def lenS:Option StkSt->Nat
 |none=>0
 |some q=>q.len
def StkIn(w:World)(q:StkSt):Prop:=
 w.heap[q.si]? =some (.cells #[.slice (some ⟨q.g,0,none⟩) q.len q.cap] 107 (0,0))/\(∃L,Row .u64 51 w q.g L/\L.length=q.cap)/\q.len<=q.cap/\q.cap<=maxLen
def StkAt(w:World)(s:Nat):Option StkSt->Prop
 |none=>w.heap[s]? =some (.cells #[.pointer none] 75 (0,0))
 |some q=>w.heap[s]? =some (.cells #[.pointer (some ⟨q.si,0,none⟩)] 75 (0,0))/\StkIn w q
def StS(s:Nat):Option StkSt->Nat->Nat->Prop
 |none,b,_=>b=s
 |some q,b,i=>b=s\/b=q.si\/(b=q.g/\q.len<=i)
def StkLe(N:Nat):Option StkSt->Option StkSt->Prop
 |none,none=>True
 |some _,none=>False
 |none,some q'=>N<=q'.si/\N<=q'.g
 |some q,some q'=>q'.si=q.si/\(q'.g=q.g/\q'.cap=q.cap\/N<=q'.g)
theorem StkLe.refl(N:Nat)(q:Option StkSt):StkLe N q q:=by
 cases q with
 |none=>trivial
 |some q=>exact⟨rfl,.inl ⟨rfl,rfl⟩⟩
theorem StkLe.trans{N M:Nat}{q q1 q2:Option StkSt}(h:StkLe N q q1)(h':StkLe M q1 q2)(hM:N<=M):StkLe N q q2:=by
 cases q<;>cases q1<;>cases q2<;>simp only[StkLe]at* <;>omega
theorem StkLe.sub{N s:Nat}{q q':Option StkSt}(h:StkLe N q q')(hl:lenS q<=lenS q'): ∀b i,StS s q' b i->b<N->StS s q b i:=by
 intro b i hb hN;cases q<;>cases q'<;>simp only[StkLe,StS,lenS]at* <;>omega
theorem StkAt.ne{w:World}{s:Nat}{q:StkSt}(h:StkAt w s (some q)):s≠q.si:=by
 rintro e;obtain⟨h1,h2,_⟩:=h;rw[e,h2]at h1;simp at h1
theorem StkIn.neg{w:World}{q:StkSt}(h:StkIn w q):q.si≠q.g:=by
 rintro e;obtain⟨h1,⟨L,hL,_⟩,_⟩:=h;unfold Row at hL;rw[e,hL]at h1;simp at h1
theorem StkAt.row_ne{w:World}{s b:Nat}{q:Option StkSt}{L:List Int}(h:StkAt w s q)(hr:Row .u64 51 w b L):b≠s:=by
 rintro rfl;unfold Row at hr;cases q with
 |none=>unfold StkAt at h;rw[hr]at h;simp at h
 |some q=>obtain⟨h,_⟩:=h;rw[hr]at h;simp at h
theorem StkIn.row_ne{w:World}{b:Nat}{q:StkSt}{L:List Int}(h:StkIn w q)(hr:Row .u64 51 w b L):b≠q.si:=by
 rintro rfl;unfold Row at hr;obtain⟨h,_⟩:=h;rw[hr]at h;simp at h
theorem heap_lt{w:World}{b:Nat}{o:Obj}(h:w.heap[b]? =some o):b<w.heap.size:=by
 rcases Nat.lt_or_ge b w.heap.size with hlt|hge
 ·exact hlt
 ·rw[Array.getElem?_eq_none hge]at h;cases h
theorem cell_of1{w:World}{b:Nat}{v:Value}{T:TypeId}(h:w.heap[b]? =some (.cells #[v] T (0,0))):w.cell? ⟨b,0,none⟩=some v:=by
 unfold World.cell?;simp[h]
theorem frozen_of1{w:World}{b:Nat}{v:Value}{T:TypeId}(h:w.heap[b]? =some (.cells #[v] T (0,0))):w.frozen? ⟨b,0,none⟩=false:=by
 simp[World.frozen?,h]
theorem set_of1{w:World}{b:Nat}{v:Value}{T:TypeId}(h:w.heap[b]? =some (.cells #[v] T (0,0)))(u:Value):(w.setCell ⟨b,0,none⟩ u).heap[b]? =some (.cells #[u] T (0,0)):=by
 simp[World.setCell,Array.getElem?_modify,h]
theorem StkAt.fc{w w':World}{s:Nat}{q:Option StkSt}{S:Nat->Nat->Prop}(h:StkAt w s q)(hf:Fc 51 S w w')(hs: ∀i,¬ S s i)(hi: ∀p,q=some p-> ∀i,¬ S p.si i):StkAt w' s q:=by
 cases q with
 |none=>exact(hf.block s (heap_lt h) hs).trans h
 |some p=>
  obtain⟨h1,h2,⟨L,hL,hl⟩,h3,h4⟩:=h;obtain⟨L',hL',hl'⟩:=hf.row _ _ hL;exact⟨(hf.block s (heap_lt h1) hs).trans h1,(hf.block p.si (heap_lt h2) (hi p rfl)).trans h2,⟨L',hL',hl'.trans hl⟩,h3,h4⟩
theorem StkAt.fr0{w w':World}{s:Nat}{q:Option StkSt}(h:StkAt w s q)(hf:Fr [] w w'):StkAt w' s q:=h.fc (Fc.fr0 hf 51 (fun _ _=>False)) (fun _ h=>h) (fun _ _ _ h=>h)
theorem save_any(s:Nat)(q:Option StkSt)(w:World)(h:StkAt w s q):Calls Tryz.prog 54 #[.pointer (some ⟨s,0,none⟩)] w fun e w'=>e= .returned (.int .i64 (lenS q:Nat))/\w=w':=by
 cases q with
 |none=>
  have c:=cell_of1 h;clear h;go_enter Tryz.func54,Tryz.ntmps54;go_wp2_with fail;go_ret;exact⟨rfl,rfl⟩
 |some q=>
  obtain⟨si,g,len,cap⟩:=q;obtain⟨h1,h2,_,h3,h4⟩:=h;have c:=cell_of1 h1;have c2:=cell_of1 h2;unfold maxLen at h4;simp only at c c2 h3 h4;clear h1 h2;go_enter Tryz.func54,Tryz.ntmps54;go_wp2;go_ret;exact⟨rfl,rfl⟩
def resS(n:Nat):Option StkSt->Option StkSt
 |none=>none
 |some q=>some {q with len:=n}
theorem lenS_res{n:Nat}{q:Option StkSt}(h:q=none->n=0):lenS (resS n q)=n:=by
 cases q with
 |none=>exact(h rfl).symm
 |some q=>rfl
theorem StkLe.res{N n:Nat}{q q':Option StkSt}(h:StkLe N q q'):StkLe N q (resS n q'):=by
 cases q<;>cases q'<;>simp only[StkLe,resS]at* <;>omega
theorem res_fin{w:World}{s n:Nat}{q:StkSt}(h:StkAt w s (some q))(hn:n<=q.cap)(w':World)(hw:w'=w.setCell ⟨q.si,0,none⟩ (.slice (some ⟨q.g,0,none⟩) n q.cap)):StkAt w' s (resS n (some q))/\Fc 51 (StS s (some q)) w w':=by
 have hne:=h.ne;obtain⟨h1,h2⟩:=h;have hg:=h2.neg;have hrn:=fun b L (hr:Row .u64 51 w b L)=>h2.row_ne hr
 obtain⟨h3,⟨L,hL,hl⟩,h4,h5⟩:=h2;have hf:Fr [q.si] w w':=by rw[hw];apply Fr.set _ (.inl (by simp));exact Fr.refl _ _
 refine⟨⟨(hf.block s (heap_lt h1) (by simpa using hne)).trans h1,?_,⟨L,hL.fr hf (by simpa using fun e=>hg e.symm),hl⟩,hn,h5⟩,Fc.of_fr hf (fun b hb _ i=> ?_) (fun b hb L hr=> ?_)⟩
 ·rw[hw];exact set_of1 h3 _
 ·simp at hb;exact .inr (.inl hb)
 ·simp at hb;exact hrn _ _ hr hb
theorem irestore_any(s n:Nat)(q:StkSt)(w:World)(h:StkAt w s (some q))(hn:n<=q.cap):Calls Tryz.prog 85 #[.pointer (some ⟨q.si,0,none⟩),.int .i64 (n:Int)] w fun e w'=>e= .returned (.tuple #[])/\StkAt w' s (resS n (some q))/\Fc 51 (StS s (some q)) w w':=by
 have FIN:=κ (res_fin h hn);obtain⟨si,g,len,cap⟩:=q;obtain⟨h1,h2,_,h3,h4⟩:=h;have c2:=cell_of1 h2;have z2:=frozen_of1 h2;unfold maxLen at h4;simp only at c2 z2 h3 h4 hn FIN;clear h1 h2;go_enter Tryz.func85,Tryz.ntmps85;go_wp2_with fail;first|go_end0|refine bodyPost_ret (results_none rfl _ _ _) rfl ?_
 exact⟨rfl,FIN.out _ rfl⟩
theorem restore_any(s n:Nat)(q:Option StkSt)(w:World)(h:StkAt w s q)(hn: ∀p,q=some p->n<=p.cap):Calls Tryz.prog 53 #[.pointer (some ⟨s,0,none⟩),.int .i64 (n:Int)] w fun e w'=>e= .returned (.tuple #[])/\StkAt w' s (resS n q)/\Fc 51 (StS s q) w w':=by
 cases q with
 |none=>
  have H:=κ h;have c:=cell_of1 h;clear h hn;go_enter Tryz.func53,Tryz.ntmps53;go_wp2_with fail;first|go_end0|refine bodyPost_ret (results_none rfl _ _ _) rfl ?_
  exact⟨rfl,H.out,Fc.refl _ _ _⟩
 |some q=>
  have C:=κ (irestore_any s n q w h (hn q rfl));have c:=cell_of1 h.1;clear h hn;go_enter Tryz.func53,Tryz.ntmps53;go_wp2_with (go_at_call 85;refine(Hid.out C).mono ?_;rintro e w1 ⟨rfl,h1,h2⟩;have H1:=κ h1;have H2:=κ h2;clear h1 h2);first|go_end0|refine bodyPost_ret (results_none rfl _ _ _) rfl ?_
  exact⟨rfl,H1.out,H2.out⟩
theorem restore_deferred(s n:Nat)(q:Option StkSt)(u:FrameMode)(w:World)(h:StkAt w s q)(hn: ∀p,q=some p->n<=p.cap):CallsD Tryz.prog 53 #[.pointer (some ⟨s,0,none⟩),.int .i64 (n:Int)] u w fun e u' w'=>u'=u/\e= .returned (.tuple #[])/\StkAt w' s (resS n q)/\Fc 51 (StS s q) w w':=by
 cases q with
 |none=>
  have H:=κ h;have c:=cell_of1 h;clear h hn;go_enter_d Tryz.func53,Tryz.ntmps53;go_wp2_with fail;first|go_end0|refine bodyPost_ret (results_none rfl _ _ _) rfl ?_
  exact⟨rfl,H.out,Fc.refl _ _ _⟩
 |some q=>
  have C:=κ (irestore_any s n q w h (hn q rfl));have c:=cell_of1 h.1;clear h hn;go_enter_d Tryz.func53,Tryz.ntmps53;go_wp2_with (go_at_call 85;refine(Hid.out C).mono ?_;rintro e w1 ⟨rfl,h1,h2⟩;have H1:=κ h1;have H2:=κ h2;clear h1 h2);first|go_end0|refine bodyPost_ret (results_none rfl _ _ _) rfl ?_
  exact⟨rfl,H1.out,H2.out⟩
end Go.Proofs.YthecibbmbnpegaaGreatDoor
end
section
namespace Go.Big
theorem andNot3(i:Nat)(h:i<4611686018427387904):bits .andNot .i64 (i:Int) 3=((i/4*4:Nat):Int):=by
 show IntKind.i64.wrap ((BitVec.ofInt 64 (i:Int) &&& ~~~BitVec.ofInt 64 ((3:Nat):Int)).toNat:Int)=_;rw[BitVec.toNat_and,BitVec.toNat_not,ofInt_u64 i (by omega),ofInt_u64 3 (by omega)]
 have e:i &&& (2^64-1-3)=i/4*4:=by
  apply Nat.eq_of_testBit_eq;intro j;rw[Nat.testBit_and,show 2^64-1-3=(2^62-1) <<< 2 from by decide,Nat.testBit_shiftLeft,Nat.testBit_two_pow_sub_one,show i/4*4=(i >>> 2) <<< 2 from by rw[Nat.shiftRight_eq_div_pow,Nat.shiftLeft_eq],Nat.testBit_shiftLeft,Nat.testBit_shiftRight];by_cases hj:2<=j
  ·rw[show 2+(j-2)=j by omega]
   by_cases h2:j-2<62
   ·simp[hj,h2]
   ·have:i.testBit j=false:=Nat.testBit_lt_two_pow (Nat.lt_of_lt_of_le h (by
     have:=Nat.pow_le_pow_right (n:=2) (by omega) (show 62<=j by omega);simpa using this))
    simp[this]
  ·simp[hj]
 rw[e];exact Lib.wrap_i64_small _ (by omega)
end Go.Big
namespace Go.Proofs.YthecibbmbnpegaaGreatDoor
open Go.Big Go.RowKit
def GrowPost(A:Option Addr)(len cap nr:Nat)(L:List Int)(w:World)(e:Ending)(w':World):Prop:=
 ∃g c L1,e= .returned (.slice (some ⟨g,0,none⟩) len c)/\len+nr<=c/\c<=maxLen/\Row .u64 51 w' g L1/\L1.length=c/\Fr [] w w'/\(A=some ⟨g,0,none⟩/\c=cap/\L1=L\/w.heap.size<=g)
theorem grow_both(A:Option Addr)(len cap nr:Nat)(L:List Int)(w:World)(hl:len<=cap)(hc:cap<=maxLen)(hn:len+nr<=1000000000000)(hA:0<cap-> ∃b,A=some ⟨b,0,none⟩/\Row .u64 51 w b L)(hL:L.length=cap)(hn0:0<nr):
 Calls Tryz.prog 118 #[.slice A len cap,.int .i64 nr] w (GrowPost A len cap nr L w):=by
 by_cases hr:len+nr<=cap
 ·refine(growW_room A len cap nr w hl hc hr).mono ?_
  rintro e w' ⟨rfl,rfl⟩;obtain⟨b,rfl,row⟩:=hA (by omega);exact⟨b,cap,L,rfl,hr,hc,row,hL,Fr.refl _ _,.inl ⟨rfl,rfl,rfl⟩⟩
 ·have:=growW_new A len nr L w (by omega) (by omega) hn (by rw[hL];exact hA)
  rw[hL]at this;refine this.mono ?_;rintro e w' ⟨g,c,rfl,h1,h2,h3,h4,h5,h6⟩;exact⟨g,c,_,rfl,h1,h2,h5,by simp;omega,h6,.inr h4⟩
def InatPost(si:Nat)(A:Option Addr)(len cap n:Nat)(w:World)(e:Ending)(w':World):Prop:=
 ∃g c,e= .returned (.slice (some ⟨g,len,none⟩) n n)/\StkIn w' ⟨si,g,len+(n+3)/4*4,c⟩/\(A=some ⟨g,0,none⟩/\c=cap\/w.heap.size<=g)/\Fc 51 (fun b i=>b=si\/(A=some ⟨b,0,none⟩/\len<=i)) w w'
theorem inat_fin{si:Nat}{A:Option Addr}{len cap n nr g c:Nat}{L1:List Int}{w w1 w':World}(hnr:nr=(n+3)/4*4)(hn0:0<n)(hsi:w.heap[si]? =some (.cells #[.slice A len cap] 107 (0,0)))(h1:len+nr<=c)(h2:c<=maxLen)(h3:Row .u64 51 w1 g L1)(h4:L1.length=c)(h5:Fr [] w w1)(h6:A=some ⟨g,0,none⟩/\c=cap\/w.heap.size<=g)(hne:g≠si)
 (hw:w'=(((w1.setCell ⟨si,0,none⟩ (.slice (some ⟨g,0,none⟩) len c)).setCell ⟨si,0,none⟩ (.slice (some ⟨g,0,none⟩) (len+nr) c)).setCell ⟨g,len,none⟩ (.int .u64 1043915))):InatPost si A len cap n w (.returned (.slice (some ⟨g,len,none⟩) n n)) w':=by
 have s1:w1.heap[si]? =some (.cells #[.slice A len cap] 107 (0,0)):=(h5.block si (heap_lt hsi) (by simp)).trans hsi;have s2:=set_of1 s1 (.slice (some ⟨g,0,none⟩) len c);have s3:=set_of1 s2 (.slice (some ⟨g,0,none⟩) (len+nr) c);have r3:=(h3.far (p:=⟨si,0,none⟩) hne (.slice (some ⟨g,0,none⟩) len c)).far (p:=⟨si,0,none⟩) hne (.slice (some ⟨g,0,none⟩) (len+nr) c);have r4:=r3.set len 1043915
 have fa:Fr [si] w1 ((w1.setCell ⟨si,0,none⟩ (.slice (some ⟨g,0,none⟩) len c)).setCell ⟨si,0,none⟩ (.slice (some ⟨g,0,none⟩) (len+nr) c)):=by
  apply Fr.set _ (.inl (by simp));apply Fr.set _ (.inl (by simp));exact Fr.refl _ _
 have ca:Fc 51 (fun b i=>b=si\/(b=g/\i=len)) w1 ((w1.setCell ⟨si,0,none⟩ (.slice (some ⟨g,0,none⟩) len c)).setCell ⟨si,0,none⟩ (.slice (some ⟨g,0,none⟩) (len+nr) c)):=
  Fc.of_fr fa (fun b hb _ i=>by simp at hb;exact .inl hb) (fun b hb L hr=>by
   simp at hb;subst hb;unfold Row at hr;rw[s1]at hr;simp at hr)
 have fb:Fr [g] ((w1.setCell ⟨si,0,none⟩ (.slice (some ⟨g,0,none⟩) len c)).setCell ⟨si,0,none⟩ (.slice (some ⟨g,0,none⟩) (len+nr) c)) w':=by
  rw[hw];apply Fr.set _ (.inl (by simp));exact Fr.refl _ _
 rw[<-hw]at r4;have cb:Fc 51 (fun b i=>b=si\/(b=g/\i=len)) _ w':=Fc.of_row fb r3 r4 (by simp) (fun i hi=>getD_set _ (fun e=>hi (.inr ⟨rfl,e.symm⟩)));refine⟨g,c,rfl,⟨?_,⟨_,r4,by simp[h4]⟩,by simp only;omega,h2⟩,h6,(Fc.fr0 h5 _ _).trans (ca.t cb) (fun b i hb hlt=> ?_)⟩
 ·have:=(fb.block si (heap_lt s3) (by simpa using fun e=>hne e.symm)).trans s3
  rw[<-hnr];exact this
 ·rcases hb with rfl|⟨rfl,rfl⟩
  ·exact .inl rfl
  ·rcases h6 with⟨h,_⟩|h
   ·exact .inr ⟨h,Nat.le_refl _⟩
   ·omega
theorem inat_any(si len cap n:Nat)(A:Option Addr)(L:List Int)(w:World)(hsi:w.heap[si]? =some (.cells #[.slice A len cap] 107 (0,0)))(hl:len<=cap)(hc:cap<=maxLen)(hA:0<cap-> ∃b,A=some ⟨b,0,none⟩/\Row .u64 51 w b L)(hL:L.length=cap)(hn0:0<n)(hn:n<=1000000000)(hlen:len<=100000000000):
 Calls Tryz.prog 88 #[.pointer (some ⟨si,0,none⟩),.int .i64 (n:Int)] w (InatPost si A len cap n w):=by
 obtain⟨nr,hnr⟩: ∃nr,nr=(n+3)/4*4:=⟨_,rfl⟩
 have hbit:bits .andNot .i64 ((n:Int)+3) 3=(nr:Int):=by
  have:=andNot3 (n+3) (by omega);rw[hnr];simpa using this
 have hnr1:n<=nr/\nr<=n+3:=by omega
 obtain⟨hnr1,hnr2⟩:=hnr1;have C:=κ (grow_both A len cap nr L w hl hc (by omega) hA hL (by omega));have c0:=cell_of1 hsi;have z0:=frozen_of1 hsi;have HNR:=κ hnr;have HSI:=κ hsi;have hlt:=heap_lt hsi;clear hnr hsi hA hL;go_enter Tryz.func88,Tryz.ntmps88;go_wp2_with (go_at_call 118;refine(Hid.out C).mono ?_;clear C;rintro e w1 ⟨g,c,L1,rfl,h1,h2,h3,h4,h5,h6⟩;have hne:g≠si:=(by rintro rfl;have:=(h5.block g hlt (by simp)).trans HSI.out;unfold Row at h3;rw[h3]at this;simp at this);have hne': ¬si=g:=fun e=>hne e.symm;have c1:=h5.cell_some c0 (by simp);have z1:w1.frozen? ⟨si,0,none⟩=false:=frozen_of1 ((h5.block si hlt (by simp)).trans HSI.out);have cg:=h3.cell (i:=len) (by omega);have zg:=h3.frozen len;obtain⟨old,hold⟩: ∃old,old=L1.getD len 0:=⟨_,rfl⟩;rw[<-hold]at cg;clear hold;unfold maxLen at h2;have HR:=κ h3;have HL1:=κ h4;have HF:=κ h5;have H6:=κ h6;clear h3 h4 h5 h6);go_ret;rw[show len+n-len=n by omega];exact inat_fin HNR.out hn0 HSI.out h1 (by unfold maxLen;omega) HR.out HL1.out HF.out (H6.out.imp (fun h=>⟨h.1,h.2.1⟩) id) hne rfl
def NatPost(s n:Nat)(q:Option StkSt)(w:World)(e:Ending)(w':World):Prop:=
 ∃b o c q',e= .returned (.slice (some ⟨b,o,none⟩) n c)/\n<=c/\c<=maxLen/\(∃L,Row .u64 51 w' b L/\o+c<=L.length)/\StkAt w' s q'/\StkLe w.heap.size q q'/\lenS q<=lenS q'/\lenS q'<=lenS q+n+3/\Fc 51 (StS s q) w w'/\
  (b<w.heap.size-> ∀i,o<=i->i<o+c->StS s q b i)/\(∀i,o<=i->i<o+c-> ¬StS s q' b i)
def NatPostE(s n:Nat)(q:Option StkSt)(w:World)(e:Ending)(w':World):Prop:=
 ∃b o c q',e= .returned (.slice (some ⟨b,o,none⟩) n c)/\n<=c/\c<=maxLen/\(∃L,Row .u64 51 w' b L/\o+c<=L.length)/\StkAt w' s q'/\StkLe w.heap.size q q'/\lenS q<=lenS q'/\lenS q'<=lenS q+n+3/\Fc 51 (StS s q) w w'/\
  (b<w.heap.size-> ∀i,o<=i->i<o+c->StS s q b i)/\(∀i,o<=i->i<o+c-> ¬StS s q' b i)/\(4<n->c=n)
theorem NatPostE.out{s n:Nat}{q:Option StkSt}{w:World}{e:Ending}{w':World}(h:NatPostE s n q w e w'):NatPost s n q w e w':=by
 obtain⟨b,o,c,q',h1,h2,h3,h4,h5,h6,h7,h8,h9,h10,h11,_⟩:=h;exact⟨b,o,c,q',h1,h2,h3,h4,h5,h6,h7,h8,h9,h10,h11⟩
theorem nat_some(s n:Nat)(q:StkSt)(w:World)(h:StkAt w s (some q))(hn0:0<n)(hn:n<=1000000000)(hlen:q.len<=100000000000):Calls Tryz.prog 55 #[.pointer (some ⟨s,0,none⟩),.int .i64 (n:Int)] w (NatPostE s n (some q) w):=by
 have hH:=h;have hne:=h.ne;obtain⟨h1,h2⟩:=h;have hneg:=h2.neg;obtain⟨si,g0,len,cap⟩:=q;obtain⟨h3,⟨L,hL,hl⟩,h4,h5⟩:=h2;simp only at*;have C:=κ (inat_any si len cap n _ L w h3 h4 h5 (fun _=>⟨g0,rfl,hL⟩) hl hn0 hn hlen);have c0:=cell_of1 h1
 have FIN: ∀e w',InatPost si (some ⟨g0,0,none⟩) len cap n w e w'->NatPostE s n (some ⟨si,g0,len,cap⟩) w e w':=by
  rintro e w' ⟨g,c,rfl,hst,hg,hf⟩
  have hfc:=hf.mono (S':=StS s (some ⟨si,g0,len,cap⟩)) (fun b i hb _=>by
   rcases hb with rfl|⟨hb,hi⟩
   ·exact .inr (.inl rfl)
   ·injection hb with hb;injection hb with hb;exact .inr (.inr ⟨hb.symm,hi⟩))
  have hs':w'.heap[s]? =some (.cells #[.pointer (some ⟨si,0,none⟩)] 75 (0,0)):=(hf.block s (heap_lt h1) (by
   rintro i (rfl|⟨hb,_⟩)
   ·exact hne rfl
   ·injection hb with hb;injection hb with hb;subst hb;unfold Row at hL;rw[hL]at h1;simp at h1)).trans h1;have hstat:StkAt w' s (some ⟨si,g,len+(n+3)/4*4,c⟩):=⟨hs',hst⟩;obtain⟨_,⟨L',hL',hl'⟩,hb1,hb2⟩:=hst;simp only at hL' hl' hb1 hb2;have hsg:g≠s:=hstat.row_ne hL';have hsig:g≠si:=hstat.2.row_ne hL';refine⟨g,len,n,_,rfl,Nat.le_refl _,by unfold maxLen;omega,⟨L',hL',by omega⟩,hstat,?_,?_,?_,hfc,fun hlt i hi1 hi2=> ?_,fun i hi1 hi2 hh=> ?_,fun _=>rfl⟩
  ·refine⟨rfl,?_⟩
   rcases hg with⟨hg,hc⟩|hg
   ·injection hg with hg;injection hg with hg;exact .inl ⟨hg.symm,hc⟩
   ·exact .inr hg
  ·show len<=len+_;omega
  ·show len+_<=len+n+3;omega
  ·rcases hg with⟨hg,hc⟩|hg
   ·injection hg with hg;injection hg with hg;exact .inr (.inr ⟨hg.symm,hi1⟩)
   ·omega
  ·rcases hh with hh|hh|⟨_,hh⟩
   ·exact hsg hh
   ·exact hsig hh
   ·simp only at hh;omega
 have HFIN:=κ FIN;clear h1 h3 hL hl h4 h5 FIN hH;go_enter Tryz.func55,Tryz.ntmps55;go_wp2_with (go_at_call 88;refine(Hid.out C).mono ?_;intro e w1 hpost;have HP:=κ (HFIN.out _ _ hpost);obtain⟨g,c,rfl,_⟩:=hpost);go_ret;exact HP.out
theorem nat_few(s n:Nat)(w:World)(h:StkAt w s none)(hn0:0<n)(hn:n<=4):Calls Tryz.prog 55 #[.pointer (some ⟨s,0,none⟩),.int .i64 (n:Int)] w (NatPostE s n none w):=by
 have c0:=cell_of1 h;have H:=κ h;have C:=κ (growN_nil n w hn0 (by omega));clear h;go_enter Tryz.func55,Tryz.ntmps55;go_wp2_with (go_at_call 87;refine(Hid.out C).mono ?_;clear C;rintro e w1 ⟨g,c,rfl,h1,h2,_,h4,h5,h6⟩;have cg:=h5.cell (i:=0) (by simp;omega);have zg:=h5.frozen 0;obtain⟨old,hold⟩: ∃old,old=(([]:List Int)++List.replicate (c-([]:List Int).length) 0).getD 0 0:=⟨_,rfl⟩;rw[<-hold]at cg;clear hold;unfold maxLen at h2;have HR:=κ h5;have HF:=κ h6;clear h5 h6);go_ret;have hf2:Fr [g] w1 (w1.setCell ⟨g,0,none⟩ (.int .u64 11259375)):=by apply Fr.set _ (.inl (by simp));exact Fr.refl _ _
 have hf3:=fr_new'' HF.out hf2 h4;have hst:=H.out.fr0 hf3;have hgs:g≠s:=by rintro rfl;have:=heap_lt H.out;omega
 refine⟨g,0,c,none,rfl,by omega,by unfold maxLen;omega,⟨_,HR.out.set 0 _,by simp⟩,hst,trivial,Nat.le_refl _,by omega,Fc.fr0 hf3 _ _,fun hlt=> ?_,fun i _ _ hh=>hgs hh,fun h=>absurd h (by omega)⟩;omega
theorem nat_first(s n:Nat)(w:World)(h:StkAt w s none)(hn0:4<n)(hn:n<=1000000000):Calls Tryz.prog 55 #[.pointer (some ⟨s,0,none⟩),.int .i64 (n:Int)] w (NatPostE s n none w):=by
 have c0:=cell_of1 h;have z0:=frozen_of1 h;have hlt:=heap_lt h;obtain⟨w1,hw1⟩: ∃w1,w1=w.setCell ⟨s,0,none⟩ (.pointer (some ⟨w.heap.size,0,none⟩)):=⟨_,rfl⟩;obtain⟨w2,hw2⟩: ∃w2,w2=w1.alloc (.cells #[.slice none 0 0] 107):=⟨_,rfl⟩;have f1:Fr [s] w w1:=by rw[hw1];apply Fr.set _ (.inl (by simp));exact Fr.refl _ _
 have s1:w1.heap[s]? =some (.cells #[.pointer (some ⟨w.heap.size,0,none⟩)] 75 (0,0)):=by rw[hw1];exact set_of1 h _
 have hsz1:w1.heap.size=w.heap.size:=by rw[hw1];simp[World.setCell]
 have f2:Fr [] w1 w2:=by rw[hw2];exact(Fr.refl _ _).alloc _
 have s2:w2.heap[s]? =some (.cells #[.pointer (some ⟨w.heap.size,0,none⟩)] 75 (0,0)):=(f2.block s (heap_lt s1) (by simp)).trans s1;have b2:w2.heap[w.heap.size]? =some (.cells #[.slice none 0 0] 107 (0,0)):=by rw[hw2,<- hsz1];exact heap_alloc_new w1 _
 have c2:Fc 51 (StS s none) w w2:=(Fc.of_fr f1 (fun b hb _ i=>by simp at hb;exact hb) (fun b hb L hr=>by simp at hb;subst hb;unfold Row at hr;rw[h]at hr;simp at hr)).t (Fc.fr0 f2 _ _);have C:=κ (inat_any w.heap.size 0 0 n none [] w2 b2 (Nat.le_refl _) (by unfold maxLen;omega) (by omega) rfl (by omega) hn (by omega));have hsz:w.heap.size+1<=w2.heap.size:=by rw[hw2];simp[hsz1]
 have FIN: ∀e w',InatPost w.heap.size none 0 0 n w2 e w'->NatPostE s n none w e w':=by
  rintro e w' ⟨g,c,rfl,hst,hg,hf⟩
  have hs':w'.heap[s]? =some (.cells #[.pointer (some ⟨w.heap.size,0,none⟩)] 75 (0,0)):=(hf.block s (heap_lt s2) (by
   rintro i (rfl|⟨hb,_⟩)
   ·exact absurd hlt (Nat.lt_irrefl _)
   ·cases hb)).trans s2;have hstat:StkAt w' s (some ⟨w.heap.size,g,0+(n+3)/4*4,c⟩):=⟨hs',hst⟩;obtain⟨_,⟨L',hL',hl'⟩,hb1,hb2⟩:=hst;simp only at hL' hl' hb1 hb2;have hsg:g≠s:=hstat.row_ne hL';have hsig:g≠w.heap.size:=hstat.2.row_ne hL'
  have hgn:w2.heap.size<=g:=by
   rcases hg with⟨hg,_⟩|hg
   ·cases hg
   ·exact hg
  have hfc:Fc 51 (StS s none) w w':=c2.trans hf (fun b i hb hlt'=>by
   rcases hb with rfl|⟨hb,_⟩
   ·omega
   ·cases hb);refine⟨g,0,n,_,rfl,Nat.le_refl _,by unfold maxLen;omega,⟨L',hL',by omega⟩,hstat,⟨Nat.le_refl _,by simp only;omega⟩,?_,?_,hfc,fun hlt'=>by omega,fun i hi1 hi2 hh=> ?_,fun _=>rfl⟩
  ·show 0<=_;omega
  ·show 0+_<=0+n+3;omega
  ·rcases hh with hh|hh|⟨_,hh⟩
   ·exact hsg hh
   ·exact hsig hh
   ·simp only at hh;omega
 have HFIN:=κ FIN;have HW1:=κ hw1;have HW2:=κ hw2;have hne: ¬w.heap.size=s:=by omega
 rw[hw2,hw1]at C HFIN;clear h f1 s1 f2 s2 b2 c2 FIN hsz hsz1 HW1 HW2 hw2 hw1;go_enter Tryz.func55,Tryz.ntmps55;go_wp2_with (go_at_call 88;go_loud (refine(Hid.out C).mono ?_);intro e w3 hpost;have HP:=κ (HFIN.out _ _ hpost);obtain⟨g,c,rfl,_⟩:=hpost);go_ret;exact HP.out
theorem nat_anyE(s n:Nat)(q:Option StkSt)(w:World)(h:StkAt w s q)(hn0:0<n)(hn:n<=1000000000)(hlen:lenS q<=100000000000):Calls Tryz.prog 55 #[.pointer (some ⟨s,0,none⟩),.int .i64 (n:Int)] w (NatPostE s n q w):=by
 cases q with
 |some q=>exact nat_some s n q w h hn0 hn hlen
 |none=>
  by_cases h4:n<=4
  ·exact nat_few s n w h hn0 h4
  ·exact nat_first s n w h (by omega) hn
theorem nat_any(s n:Nat)(q:Option StkSt)(w:World)(h:StkAt w s q)(hn0:0<n)(hn:n<=1000000000)(hlen:lenS q<=100000000000):Calls Tryz.prog 55 #[.pointer (some ⟨s,0,none⟩),.int .i64 (n:Int)] w (NatPost s n q w):=
 (nat_anyE s n q w h hn0 hn hlen).mono fun _ _ h=>h.out
end Go.Proofs.YthecibbmbnpegaaGreatDoor
end
section
namespace Go.Big
open Go.RowKit
def Wr(T:TypeId)(w:World)(b o:Nat)(xs:List Int):Prop:=Src .u64 w b o xs/\ ∃L,Row .u64 T w b L/\o+xs.length<=L.length
def In1(b o n:Nat)(b' i:Nat):Prop:=b'=b/\o<=i/\i<o+n
def Dj(b o n b' o' n':Nat):Prop:=b≠b'\/o+n<=o'\/o'+n'<=o\/n=0\/n'=0
def Off(S:Nat->Nat->Prop)(b o n:Nat):Prop:= ∀i,o<=i->i<o+n-> ¬S b i
section
variable {T:TypeId}{S S':Nat->Nat->Prop}{w w1 w2:World}{b o n b' o' n':Nat}{xs zs L:List Int}
theorem Dj.symm(h:Dj b o n b' o' n'):Dj b' o' n' b o n:=by unfold Dj at *;omega
theorem Dj.off(h:Dj b o n b' o' n'):Off (In1 b' o' n') b o n:=by
 intro i h1 h2 ⟨e,h3,h4⟩;subst e;unfold Dj at h;omega
theorem Dj.sub1{m m':Nat}(h:Dj b o n b' o' n')(h1:m<=n)(h2:m'<=n'):Dj b o m b' o' m':=by unfold Dj at *;omega
theorem Dj.subr{i' m':Nat}(h:Dj b o n b' o' n')(h2:i'+m'<=n'):Dj b o n b' (o'+i') m':=by unfold Dj at *;omega
theorem In1.up{i m x y:Nat}(h:In1 b (o+i) m x y)(hm:i+m<=n):In1 b o n x y:=by unfold In1 at *;omega
theorem Src.dr{k:IntKind}(h:Src k w b o xs):Src k w.drew b o xs:=h
theorem Fc.of_drew(h:Fc T S w.drew w1):Fc T S w w1:=⟨h.os,h.tape,h.output,h.size,h.block,h.cell,h.row⟩
theorem spl_whole{L cs:List Int}(h:cs.length=L.length):spl L 0 cs=cs:=by unfold spl;simp[h]
theorem Off.sub{i m:Nat}(h:Off S b o n)(hm:i+m<=n):Off S b (o+i) m:=fun j h1 h2=>h j (by omega) (by omega)
theorem Wr.lt(h:Wr T w b o xs):b<w.heap.size:=by obtain⟨_,L,hL,_⟩:=h;exact hL.lt
theorem Wr.src(h:Wr T w b o xs):Src .u64 w b o xs:=h.1
theorem Wr.cell(h:Wr T w b o xs){j:Nat}(hj:j<xs.length):w.cell? ⟨b,o+j,none⟩=some (.int .u64 (xs.getD j 0)):=h.1 j hj
theorem Wr.frozen(h:Wr T w b o xs)(i:Nat):w.frozen? ⟨b,i,none⟩=false:=by obtain⟨_,L,hL,_⟩:=h;exact hL.frozen i
theorem Wr.fc(h:Wr T w b o xs)(hf:Fc T S w w1)(ho:Off S b o xs.length):Wr T w1 b o xs:=by
 obtain⟨h1,L,hL,hl⟩:=h;obtain⟨L',hL',hl'⟩:=hf.row _ _ hL;exact⟨h1.fc hf ho,L',hL',by omega⟩
theorem Wr.drew(h:Wr T w b o xs):Wr T w.drew b o xs:=h
theorem Wr.of_row(h:Row .u64 T w b L)(hl:o+xs.length<=L.length)(he: ∀j,j<xs.length->L.getD (o+j) 0=xs.getD j 0):Wr T w b o xs:=
 ⟨fun j hj=>by rw[h.cell (by omega),he j hj],L,h,hl⟩
theorem Wr.row(h:Row .u64 T w b L):Wr T w b 0 L:=Wr.of_row h (by omega) (fun j _=>by rw[Nat.zero_add])
theorem getD_drop_take{i m j:Nat}(h:j<m):((xs.drop i).take m).getD j 0=xs.getD (i+j) 0:=by
 simp[List.getD_eq_getElem?_getD,List.getElem?_take,h]
theorem Wr.sub(h:Wr T w b o xs)(i m:Nat)(hi:i+m<=xs.length):Wr T w b (o+i) ((xs.drop i).take m):=by
 obtain⟨h1,L,hL,hl⟩:=h;have e:((xs.drop i).take m).length=m:=by rw[List.length_take,List.length_drop];omega
 refine⟨fun j hj=> ?_,L,hL,by omega⟩;rw[e]at hj;have:=h1 (i+j) (by omega);rw[<-Nat.add_assoc]at this;rw[this,getD_drop_take hj]
theorem Wr.take(h:Wr T w b o xs)(m:Nat)(hm:m<=xs.length):Wr T w b o (xs.take m):=by
 have:=h.sub 0 m (by omega);simpa using this
theorem Wr.drop(h:Wr T w b o xs)(i:Nat)(hi:i<=xs.length):Wr T w b (o+i) (xs.drop i):=by
 have:=h.sub i (xs.length-i) (by omega);rwa[List.take_of_length_le (by simp)]at this
theorem Wr.upd{i:Nat}(h:Wr T w b o xs)(h':Wr T w1 b (o+i) zs)(hf:Fc T (In1 b (o+i) zs.length) w w1)(hi:i+zs.length<=xs.length):Wr T w1 b o (spl xs i zs):=by
 obtain⟨h1,L,hL,hl⟩:=h;obtain⟨L',hL',hl'⟩:=hf.row _ _ hL;have e:(spl xs i zs).length=xs.length:=spl_len hi;refine⟨fun j hj=> ?_,L',hL',by omega⟩;rw[e]at hj;by_cases hin:i<=j/\j<i+zs.length
 ·obtain⟨k,rfl⟩: ∃k,j=i+k:=⟨j-i,by omega⟩
  have:=h'.1 k (by omega);rw[Nat.add_assoc]at this;rw[this,spl_get_in (by omega) (by omega)]
 ·rw[spl_getD_out hi hin,hf.cell b (o+j) hL.lt (fun hh=>hin ⟨by have:=hh.2.1;omega,by have:=hh.2.2;omega⟩)]
  exact h1 j hj
theorem Wr.set(h:Wr T w b o xs){j:Nat}(hj:j<xs.length)(v:Int):Wr T (w.setCell ⟨b,o+j,none⟩ (.int .u64 v)) b o (xs.set j v):=by
 obtain⟨h1,L,hL,hl⟩:=h;refine Wr.of_row (hL.set (o+j) v) (by simpa using hl) (fun i hi=> ?_);rw[List.length_set]at hi;by_cases e:i=j
 ·subst e
  rw[getD_set_self _ (by omega),getD_set_self _ hj]
 ·rw[getD_set _ (by omega),getD_set _ (fun q=>e q.symm)]
  have hc:=hL.cell (i:=o+i) (by omega);rw[h1 i hi]at hc;simpa using hc.symm
theorem Fc.set1(h:Wr T w b o xs){j:Nat}(hj:j<xs.length)(v:Int):Fc T (In1 b (o+j) 1) w (w.setCell ⟨b,o+j,none⟩ (.int .u64 v)):=by
 obtain⟨h1,L,hL,hl⟩:=h;refine Fc.of_row (by apply Fr.set _ (.inl (by simp));exact Fr.refl _ _) hL (hL.set (o+j) v) (by simp) (fun i hi=>getD_set _ (fun e=>hi ⟨rfl,by omega,by omega⟩))
theorem Wr.fr0(h:Wr T w b o xs)(hf:Fr [] w w1):Wr T w1 b o xs:=h.fc (Fc.fr0 hf T (fun _ _=>False)) (fun _ _ _ h=>h)
end
end Go.Big
namespace Go.Proofs.YthecibbmbnpegaaGreatDoor
open Go.Big Go.RowKit
def VecW(w:World)(bz oz n:Nat)(R:List Int->Int->Prop)(e:Ending)(w':World):Prop:=
 ∃(zs:List Int) (c:Int),e= .returned (.int .u64 c)/\Wr 51 w' bz oz zs/\Fc 51 (In1 bz oz n) w w'/\zs.length=n/\DG 18446744073709551616 zs/\R zs c
theorem VecPost.w{w w':World}{bz oz n:Nat}{L:List Int}{R:List Int->Int->Prop}{e:Ending}(h:VecPost 51 w bz oz n L R e w')(hz:Row .u64 51 w bz L)(hfit:oz+n<=L.length):VecW w bz oz n R e w':=by
 obtain⟨zs,c,rfl,row,hf,hl,hd,hr⟩:=h;refine⟨zs,c,rfl,Wr.of_row row (by rw[spl_len (by omega)];omega) (fun j hj=>spl_get_in (by omega) hj),Fc.of_spl hf hz row (by omega) (fun i h1 h2=>⟨rfl,h1,by omega⟩),hl,hd,hr⟩
theorem NoTouch.of{bz oz bx ox n:Nat}(h:Dj bx ox n bz oz n\/(bx=bz/\oz<=ox)):NoTouch bz oz bx ox n:=by
 unfold NoTouch Dj at *;omega
theorem addVVw_any(bz oz cz bx ox cx by_ oy cy n:Nat)(L xs ys:List Int)(w:World)(hz:Wr 51 w bz oz L)(hL:L.length=n)(hnx:xs.length=n)(hsx:Go.Big.Src .u64 w bx ox xs)(hdx:DG 18446744073709551616 xs)(halx:Dj bx ox n bz oz n\/(bx=bz/\oz<=ox))
 (hny:ys.length=n)(hsy:Go.Big.Src .u64 w by_ oy ys)(hdy:DG 18446744073709551616 ys)(haly:Dj by_ oy n bz oz n\/(by_=bz/\oz<=oy))(hn9:n<=1000000000):
 Calls Tryz.prog 43 #[.slice (some ⟨bz,oz,none⟩) n cz,.slice (some ⟨bx,ox,none⟩) n cx,.slice (some ⟨by_,oy,none⟩) n cy] w (VecW w bz oz n (fun zs c=>0<=c/\c<=1/\val 18446744073709551616 zs+18446744073709551616^n*c=val 18446744073709551616 xs+val 18446744073709551616 ys)):=by
 obtain⟨_,M,hM,hl⟩:=hz;exact(addVVo_any bz oz cz bx ox cx by_ oy cy n M xs ys w hM (by omega) hnx hsx hdx (NoTouch.of halx) hny hsy hdy (NoTouch.of haly) hn9).mono fun e w' h=>VecPost.w h hM (by omega)
theorem subVVw_any(bz oz cz bx ox cx by_ oy cy n:Nat)(L xs ys:List Int)(w:World)(hz:Wr 51 w bz oz L)(hL:L.length=n)(hnx:xs.length=n)(hsx:Go.Big.Src .u64 w bx ox xs)(hdx:DG 18446744073709551616 xs)(halx:Dj bx ox n bz oz n\/(bx=bz/\oz<=ox))
 (hny:ys.length=n)(hsy:Go.Big.Src .u64 w by_ oy ys)(hdy:DG 18446744073709551616 ys)(haly:Dj by_ oy n bz oz n\/(by_=bz/\oz<=oy))(hn9:n<=1000000000):
 Calls Tryz.prog 71 #[.slice (some ⟨bz,oz,none⟩) n cz,.slice (some ⟨bx,ox,none⟩) n cx,.slice (some ⟨by_,oy,none⟩) n cy] w (VecW w bz oz n (fun zs c=>0<=c/\c<=1/\val 18446744073709551616 zs+val 18446744073709551616 ys=val 18446744073709551616 xs+18446744073709551616^n*c)):=by
 obtain⟨_,M,hM,hl⟩:=hz;exact(subVVo_any bz oz cz bx ox cx by_ oy cy n M xs ys w hM (by omega) hnx hsx hdx (NoTouch.of halx) hny hsy hdy (NoTouch.of haly) hn9).mono fun e w' h=>VecPost.w h hM (by omega)
theorem mulAddVWWw_any(bz oz cz bx ox cx n:Nat)(L xs:List Int)(y r:Int)(w:World)(hz:Wr 51 w bz oz L)(hL:L.length=n)(hnx:xs.length=n)(hsx:Go.Big.Src .u64 w bx ox xs)(hdx:DG 18446744073709551616 xs)(halx:Dj bx ox n bz oz n\/(bx=bz/\oz<=ox))(hn9:n<=1000000000)(hy0:0<=y)(hy1:y<18446744073709551616)(hr0:0<=r)(hr1:r<18446744073709551616):
 Calls Tryz.prog 81 #[.slice (some ⟨bz,oz,none⟩) n cz,.slice (some ⟨bx,ox,none⟩) n cx,.int .u64 y,.int .u64 r] w (VecW w bz oz n (fun zs c=>0<=c/\c<18446744073709551616/\val 18446744073709551616 zs+18446744073709551616^n*c=val 18446744073709551616 xs*y+r)):=by
 obtain⟨_,M,hM,hl⟩:=hz;have C:=κ ((mulAddVWW_any bz oz cz bx ox cx n M xs y r w hM (by omega) hnx hsx hdx (NoTouch.of halx) hn9 hy0 hy1 hr0 hr1).mono fun e w' h=>VecPost.w h hM (by omega));clear hM hl hnx hsx hdx halx hL;go_enter Tryz.func81,Tryz.ntmps81;go_wp2_with (go_at_call 116;refine(Hid.out C).mono ?_;rintro e w1 ⟨zs,c,rfl,h⟩;have H:=κ h;clear h);go_ret;exact⟨zs,c,rfl,H.out⟩
end Go.Proofs.YthecibbmbnpegaaGreatDoor
end
section
namespace Go.Proofs.YthecibbmbnpegaaGreatDoor
open Go.Big Go.RowKit
def Rcv(w:World)(A:Option Addr)(b o c:Nat):Prop:=c<=maxLen/\(c=0\/(A=some ⟨b,o,none⟩/\ ∃Z,Wr 51 w b o Z/\Z.length=c))
theorem Rcv.nil(w:World)(b o:Nat):Rcv w none b o 0:=⟨by unfold maxLen;omega,.inl rfl⟩
theorem Rcv.fc{w w':World}{A:Option Addr}{b o c:Nat}{S:Nat->Nat->Prop}(h:Rcv w A b o c)(hf:Fc 51 S w w'):Rcv w' A b o c:=by
 obtain⟨h1,h2|⟨h2,Z,⟨_,L,hL,hl⟩,hz⟩⟩:=h
 ·exact⟨h1,.inl h2⟩
 ·obtain⟨L',hL',hl'⟩:=hf.row _ _ hL
  refine⟨h1,.inr ⟨h2,(L'.drop o).take c,Wr.of_row hL' ?_ (fun j hj=> ?_),?_⟩⟩
  ·rw[List.length_take,List.length_drop];omega
  ·rw[List.length_take]at hj;rw[getD_drop_take (by omega)]
  ·rw[List.length_take,List.length_drop];omega
def MadeR(A:Option Addr)(b o c n:Nat)(w:World)(e:Ending)(w':World):Prop:=
 ∃b' o' c' Z,e= .returned (.slice (some ⟨b',o',none⟩) n c')/\n<=c'/\c'<=maxLen/\Wr 51 w' b' o' Z/\Z.length=c'/\Fr [] w w'/\((A=some ⟨b,o,none⟩/\b'=b/\o'=o/\c'=c/\n<=c/\w=w')\/(c<n/\c'<=n+4/\w.heap.size<=b'))
theorem makeR_any(A:Option Addr)(l b o c n:Nat)(w:World)(h:Rcv w A b o c)(hl:l<=c)(hn0:0<n)(hn:n<=1000000000):Calls Tryz.prog 42 #[.slice A l c,.int .i64 (n:Int)] w (MadeR A b o c n w):=by
 obtain⟨hc,h⟩:=h;unfold maxLen at hc;by_cases h0:n<=c
 ·have hA:A=some ⟨b,o,none⟩/\ ∃Z,Wr 51 w b o Z/\Z.length=c:=by rcases h with h|h;omega;exact h
  obtain⟨rfl,Z,hZ,hl'⟩:=hA;have HZ:=κ hZ;have HL:=κ hl';clear hZ hl' h;go_enter Tryz.func42,Tryz.ntmps42;go_wp2_with fail;go_ret;exact⟨b,o,c,Z,rfl,h0,by unfold maxLen;omega,HZ.out,HL.out,Fr.refl _ _,.inl ⟨rfl,rfl,rfl,rfl,h0,rfl⟩⟩
 ·clear h
  by_cases h1:n=1
  ·subst h1
   go_enter Tryz.func42,Tryz.ntmps42;go_wp2_with (at_make;refine wp_mkc rfl (.const (.int .i64 1)) (.const (.int .i64 1)) _ rfl .u64 51 8 ty_big (by omega) 1 1 rfl rfl (by omega) (by omega) ?_;intro g w1 hg row f);go_ret;exact⟨g,0,1,_,rfl,by omega,by unfold maxLen;omega,Wr.row row,by simp,f,.inr ⟨by omega,by omega,hg⟩⟩
  ·have hw:IntKind.i64.wrap ((n:Int)+4)=((n+4:Nat):Int):=by rw[IntKind.wrap_i64];omega
   have h1':((n:Int)==1)=false:=by rw[beq_eq_false_iff_ne];omega
   go_enter Tryz.func42,Tryz.ntmps42;go_wp2_with (at_make;refine wp_mkc rfl (.tmp 15) (.tmp 17) _ rfl .u64 51 8 ty_big (by omega) n (n+4) rfl (by first|rfl|(show Value.int IntKind.i64 _=_;congr 1)) (by omega) (by omega) ?_;intro g w1 hg row f);go_ret;exact⟨g,0,n+4,_,rfl,by omega,by unfold maxLen;omega,Wr.row row,by simp,f,.inr ⟨by omega,by omega,hg⟩⟩
theorem eql_ptr{a c:Addr}{L X:List Int}(w:World)(hne:a≠c)(hz:Row .u64 51 w a.block L)(hx:Row .u64 51 w c.block X):
 (binOp .eql 90 (.pointer (some a)) (.pointer (some c))).run Tryz.prog w= .ok (.bool false) w:=by
 obtain⟨j,hj,hjs⟩: ∃j,Tryz.prog.info? 51=some j/\j.size=1:=by
  have h:=size_wordV;cases e:Tryz.prog.info? 51 with
  |none=>rw[e]at h;cases h
  |some j=>rw[e]at h;exact⟨j,rfl,by simpa using h⟩
 exact run_eql_ptr_other w Tryz.underlying90 hj (by omega) hne hz hx
theorem alias_no0(A B:Option Addr)(l m c d:Nat)(w:World)(h:c=0\/d=0)(hc:c<=maxLen)(hd:d<=maxLen):Calls Tryz.prog 37 #[.slice A l c,.slice B m d] w fun e w'=>e= .returned (.bool false)/\Fr [] w w':=by
 unfold maxLen at hc hd;by_cases h0:c=0
 ·subst h0
  clear h;go_enter Tryz.func37,Tryz.ntmps37;go_wp2_with fail;go_quiet (fail);go_wp2_with fail;go_ret;exact⟨rfl,(Fr.refl _ _).drewN _⟩
 ·have hd0:d=0:=by omega
  subst hd0;have hc0:(0:Int)<(c:Int):=by omega
  have hc1:0<c:=by omega
  have hcb:decide ((0:Int)<(c:Int))=true:=by simpa using hc1
  have hcb2:decide (0<c)=true:=by simpa using hc1
  clear h;go_enter Tryz.func37,Tryz.ntmps37;go_wp2_with fail;go_quiet (fail);go_wp2_with fail;go_ret;exact⟨rfl,(Fr.refl _ _).drewN _⟩
theorem alias_no(bx ox l c by_ oy m d:Nat)(w:World)(X Y:List Int)(hx:Row .u64 51 w bx X)(hy:Row .u64 51 w by_ Y)(hlc:l<=c)(hmd:m<=d)(hc:c<=maxLen)(hd:d<=maxLen)(hc0:0<c)(hd0:0<d)(hne:bx≠by_\/ox+c≠oy+d):
 Calls Tryz.prog 37 #[.slice (some ⟨bx,ox,none⟩) l c,.slice (some ⟨by_,oy,none⟩) m d] w fun e w'=>e= .returned (.bool false)/\Fr [] w w':=by
 unfold maxLen at hc hd;obtain⟨c1,hc1⟩: ∃c1,c1=c-1:=⟨_,rfl⟩;obtain⟨d1,hd1⟩: ∃d1,d1=d-1:=⟨_,rfl⟩;have e1:(c:Int)-1=(c1:Int):=by omega
 have e2:(d:Int)-1=(d1:Int):=by omega
 have hc1c:(c1:Int)<(c:Int):=by omega
 have hd1d:(d1:Int)<(d:Int):=by omega
 have hcp:(0:Int)<(c:Int):=by omega
 have hdp:(0:Int)<(d:Int):=by omega
 have hcb:decide ((0:Int)<(c:Int))=true:=by simpa using hc0
 have hcb2:decide (0<c)=true:=by simpa using hc0
 have hdb:decide ((0:Int)<(d:Int))=true:=by simpa using hd0
 have hdb2:decide (0<d)=true:=by simpa using hd0
 have hcl:(l:Int)<=(c:Int):=by omega
 have hdl:(m:Int)<=(d:Int):=by omega
 have hq:=fun k=>eql_ptr (a:=⟨bx,ox+c1,none⟩) (c:=⟨by_,oy+d1,none⟩) (w.drewN k) (by intro e;injection e with e1 e2;omega) (hx.drewN k) (hy.drewN k)
 have hq1:=hq 1;have hq2:(binOp .eql 90 (.pointer (some ⟨bx,ox+c1,none⟩)) (.pointer (some ⟨by_,oy+d1,none⟩))).run Tryz.prog w.drew= .ok (.bool false) w.drew:=hq 1;have hwc:IntKind.i64.wrap (c1:Int)=(c1:Int):=by rw[IntKind.wrap_i64];omega
 have hwd:IntKind.i64.wrap (d1:Int)=(d1:Int):=by rw[IntKind.wrap_i64];omega
 clear hq hx hy hc1 hd1 hne;go_enter Tryz.func37,Tryz.ntmps37;go_wp2_with fail;go_region;all_goals (go_wp2_with fail)
 all_goals go_ret
 all_goals exact⟨rfl,(Fr.refl _ _).drew⟩
end Go.Proofs.YthecibbmbnpegaaGreatDoor
end
