/-
  Part 1 of the proof of the law FnExpSum: XgBase. Conditions: those of each statement.
-/
import Derived.WalkKit
import Derived.Deep.Draws
import Derived.OwnWalk
import Derived.Test.YthecibbmbnpegaaGreatDoorProg
import Derived.Lib.Hide
import Derived.Outline
import Derived.WalkSpells
import Derived.Deep.LoopGhost
import Derived.KernelRfl
import Derived.Deep.QuietTactic
import Derived.BigQuiet
set_option linter.unusedSimpArgs false
set_option linter.unusedVariables false
set_option maxRecDepth 100000
set_option maxHeartbeats 1000000
theorem Go.κ{p:Prop}(h:p):Go.RowKit.Hid p:=h
section
namespace Go.Big
def val(B:Int):List Int->Int
 |[]=>0
 |d::ds=>d+B*val B ds
theorem val_nil(B:Int):val B []=0:=rfl
theorem val_cons(B d:Int)(ds:List Int):val B (d::ds)=d+B*val B ds:=rfl
theorem val_append(B:Int)(xs ys:List Int):val B (xs++ys)=val B xs+B^xs.length*val B ys:=by
 induction xs with
 |nil=>simp[val_nil]
 |cons x xs ih=>
  simp only[List.cons_append,val_cons,ih,List.length_cons,Int.pow_succ];grind
theorem getD_in{xs:List Int}{i:Nat}(h:i<xs.length):xs.getD i 0=xs[i]:=by simp[List.getD_eq_getElem?_getD,h]
theorem getD_out{xs:List Int}{i:Nat}(h:xs.length<=i):xs.getD i 0=0:=by simp[List.getD_eq_getElem?_getD,h]
def DG(B:Int)(ds:List Int):Prop:= ∀d∈ds,0<=d/\d<B
theorem DG.nil(B:Int):DG B []:=by intro d h;simp at h
theorem DG.tail{B d:Int}{ds:List Int}(h:DG B (d::ds)):DG B ds:=fun x hx=>h x (List.mem_cons_of_mem _ hx)
theorem DG.head{B d:Int}{ds:List Int}(h:DG B (d::ds)):0<=d/\d<B:=h d (by simp)
theorem DG.cons{B d:Int}{ds:List Int}(h0:0<=d)(h1:d<B)(h:DG B ds):DG B (d::ds):=by
 intro x hx;rcases List.mem_cons.1 hx with rfl|hx
 ·exact⟨h0,h1⟩
 ·exact h x hx
theorem DG.append{B:Int}{xs ys:List Int}(h:DG B xs)(k:DG B ys):DG B (xs++ys):=by
 intro x hx;rcases List.mem_append.1 hx with hx|hx
 ·exact h x hx
 ·exact k x hx
theorem DG.take{B:Int}{xs:List Int}(h:DG B xs)(k:Nat):DG B (xs.take k):=fun x hx=>h x (List.mem_of_mem_take hx)
theorem DG.drop{B:Int}{xs:List Int}(h:DG B xs)(k:Nat):DG B (xs.drop k):=fun x hx=>h x (List.mem_of_mem_drop hx)
theorem DG.get{B:Int}{xs:List Int}(h:DG B xs){i:Nat}(hi:i<xs.length):0<=xs[i]/\xs[i]<B:=h _ (List.getElem_mem hi)
theorem DG.getD{B:Int}{xs:List Int}(hB:0<B)(h:DG B xs)(i:Nat):0<=xs.getD i 0/\xs.getD i 0<B:=by
 by_cases hi:i<xs.length
 ·rw[getD_in hi];exact h.get hi
 ·rw[getD_out (by omega)];omega
theorem DG.rep{B:Int}(hB:0<B)(n:Nat):DG B (List.replicate n 0):=by
 intro x hx;have:=(List.mem_replicate.1 hx).2;omega
theorem DG.set{B:Int}{xs:List Int}(h:DG B xs)(i:Nat){v:Int}(h0:0<=v)(h1:v<B):DG B (xs.set i v):=by
 intro x hx;rcases List.mem_or_eq_of_mem_set hx with hx|rfl
 ·exact h x hx
 ·exact⟨h0,h1⟩
theorem pow_pos_{B:Int}(h:0<B)(n:Nat):0<B^n:=Int.pow_pos h
theorem val_nonneg{B:Int}(hB:0<B){ds:List Int}(h:DG B ds):0<=val B ds:=by
 induction ds with
 |nil=>simp[val_nil]
 |cons d ds ih=>
  have h1:=ih h.tail;have h2:=h.head;have h3:0<=B*val B ds:=Int.mul_nonneg (by omega) h1;rw[val_cons];omega
theorem val_lt{B:Int}(hB:0<B){ds:List Int}(h:DG B ds):val B ds<B^ds.length:=by
 induction ds with
 |nil=>simp[val_nil]
 |cons d ds ih=>
  have h1:=ih h.tail;have h2:=h.head;have h3:B*(val B ds+1)<=B*B^ds.length:=Int.mul_le_mul_of_nonneg_left (by omega) (by omega);rw[val_cons,List.length_cons,Int.pow_succ];grind
theorem val_take_succ(B:Int)(xs:List Int)(k:Nat)(h:k<xs.length):val B (xs.take (k+1))=val B (xs.take k)+B^k*xs[k]:=by
 rw[List.take_succ_eq_append_getElem h,val_append,List.length_take,Nat.min_eq_left (by omega)];simp[val_cons,val_nil]
theorem val_take_succ'(B:Int)(xs:List Int)(k:Nat):val B (xs.take (k+1))=val B (xs.take k)+B^k*xs.getD k 0:=by
 by_cases h:k<xs.length
 ·rw[val_take_succ B xs k h,getD_in h]
 ·rw[List.take_of_length_le (by omega),List.take_of_length_le (by omega),getD_out (by omega)];simp
theorem val_split(B:Int)(xs:List Int)(k:Nat)(h:k<=xs.length):val B xs=val B (xs.take k)+B^k*val B (xs.drop k):=by
 have:=val_append B (xs.take k) (xs.drop k);rw[List.take_append_drop,List.length_take,Nat.min_eq_left h]at this;exact this
theorem val_snoc(B:Int)(xs:List Int)(d:Int):val B (xs++[d])=val B xs+B^xs.length*d:=by
 rw[val_append];simp[val_cons,val_nil]
theorem val_rep(B:Int)(n:Nat):val B (List.replicate n 0)=0:=by
 induction n with
 |zero=>rfl
 |succ n ih=>rw[List.replicate_succ,val_cons,ih];simp
theorem val_zeros(B:Int){xs:List Int}(h: ∀x∈xs,x=0):val B xs=0:=by
 induction xs with
 |nil=>rfl
 |cons x xs ih=>
  rw[val_cons,h x (by simp),ih (fun y hy=>h y (List.mem_cons_of_mem _ hy))];simp
def NZ(xs:List Int):Prop:=xs=[]\/xs.getD (xs.length-1) 0≠0
theorem NZ.nil:NZ []:= .inl rfl
theorem NZ.tail{x:Int}{xs:List Int}(h:NZ (x::xs))(hx:xs≠[]):NZ xs:=by
 rcases h with h|h
 ·cases h
 ·right
  cases xs with
  |nil=>exact absurd rfl hx
  |cons y ys=>simpa using h
theorem val_pos{B:Int}(hB:0<B){xs:List Int}(hd:DG B xs)(hz:NZ xs)(hne:xs≠[]):B^(xs.length-1)<=val B xs:=by
 induction xs with
 |nil=>exact absurd rfl hne
 |cons x xs ih=>
  cases xs with
  |nil=>
   rcases hz with h|h
   ·cases h
   ·simp at h
    have:=hd.head;simp[val_cons,val_nil];omega
  |cons y ys=>
   have h1:=ih hd.tail (hz.tail (by simp)) (by simp);have h2:=hd.head;have h3:B*B^((y::ys).length-1)<=B*val B (y::ys):=Int.mul_le_mul_of_nonneg_left h1 (by omega);rw[val_cons];have e:(x::y::ys).length-1=(y::ys).length-1+1:=by simp
   rw[e,Int.pow_succ,Int.mul_comm];omega
theorem nz_pos{B:Int}(hB:0<B){xs:List Int}(hd:DG B xs)(hz:NZ xs)(hne:xs≠[]):0<val B xs:=by
 have:=val_pos hB hd hz hne;have:=pow_pos_ hB (xs.length-1);omega
theorem digit_unique{B d e v u:Int}(hd:0<=d/\d<B)(he:0<=e/\e<B)(h:d+B*v=e+B*u):d=e/\v=u:=by
 have hB:0<B:=by omega
 have h1:(d+B*v)%B=d:=by rw[Int.add_mul_emod_self_left];exact Int.emod_eq_of_lt hd.1 hd.2
 have h2:(e+B*u)%B=e:=by rw[Int.add_mul_emod_self_left];exact Int.emod_eq_of_lt he.1 he.2
 have h3:d=e:=by rw[<-h1,<- h2,h]
 subst h3;refine⟨rfl,?_⟩;have:B*v=B*u:=by omega
 exact Int.eq_of_mul_eq_mul_left (by omega) this
theorem eq_of_val{B:Int}{xs ys:List Int}(hx:DG B xs)(hy:DG B ys)(zx:NZ xs)(zy:NZ ys)(hB:0<B)(h:val B xs=val B ys):xs=ys:=by
 induction xs generalizing ys with
 |nil=>
  by_cases e:ys=[]
  ·exact e.symm
  ·have:=nz_pos hB hy zy e
   rw[val_nil]at h;omega
 |cons x xs ih=>
  cases ys with
  |nil=>
   have:=nz_pos hB hx zx (by simp);rw[val_nil]at h;omega
  |cons y ys=>
   rw[val_cons,val_cons]at h;obtain⟨rfl,h'⟩:=digit_unique hx.head hy.head h;by_cases ex:xs=[]
   ·subst ex
    by_cases ey:ys=[]
    ·rw[ey]
    ·have:=nz_pos hB hy.tail (zy.tail ey) ey
     rw[val_nil]at h';omega
   ·by_cases ey:ys=[]
    ·subst ey
     have:=nz_pos hB hx.tail (zx.tail ex) ex;rw[val_nil]at h';omega
    ·rw[ih hx.tail hy.tail (zx.tail ex) (zy.tail ey) h']
theorem eq_of_val_len{B:Int}{xs ys:List Int}(hx:DG B xs)(hy:DG B ys)(hl:xs.length=ys.length)(h:val B xs=val B ys):xs=ys:=by
 induction xs generalizing ys with
 |nil=>cases ys with
  |nil=>rfl
  |cons=>simp at hl
 |cons x xs ih=>
  cases ys with
  |nil=>simp at hl
  |cons y ys=>
   rw[val_cons,val_cons]at h;obtain⟨rfl,h'⟩:=digit_unique hx.head hy.head h;rw[ih hx.tail hy.tail (by simpa using hl) h']
theorem pow_le_pow_{B:Int}(hB:1<=B){m n:Nat}(h:m<=n):B^m<=B^n:=by
 obtain⟨k,rfl⟩: ∃k,n=m+k:=⟨n-m,by omega⟩;rw[Int.pow_add];have h1:=pow_pos_ (show 0<B by omega) m;have h2:=pow_pos_ (show 0<B by omega) k;have:=Int.mul_le_mul_of_nonneg_left (show 1<=B^k by omega) (show 0<=B^m by omega);omega
theorem len_le{B:Int}(hB:1<B){xs:List Int}(hd:DG B xs)(hz:NZ xs){k:Nat}(h:val B xs<B^k):xs.length<=k:=by
 by_cases hne:xs=[]
 ·subst hne;simp
 ·have h1:=val_pos (by omega) hd hz hne
  by_cases hk:xs.length<=k
  ·exact hk
  ·have h2:=pow_le_pow_ (B:=B) (by omega) (show k<=xs.length-1 by omega)
   omega
theorem val_lt_of_len{B:Int}(hB:1<B){xs:List Int}(hd:DG B xs){k:Nat}(h:xs.length<=k):val B xs<B^k:=by
 have h1:=val_lt (by omega) hd;have h2:=pow_le_pow_ (B:=B) (by omega) h;omega
theorem lt_of_shorter{B:Int}(hB:1<B){xs ys:List Int}(hx:DG B xs)(hy:DG B ys)(zy:NZ ys)(h:xs.length<ys.length):val B xs<val B ys:=by
 have h1:=val_lt_of_len hB hx (show xs.length<=ys.length-1 by omega);have h2:=val_pos (by omega) hy zy (by intro e;subst e;simp at h);omega
theorem lt_of_top{B:Int}(hB:1<B){xs ys:List Int}(hx:DG B xs)(hy:DG B ys)(hl:xs.length=ys.length){i:Nat}(hi:i<xs.length)
 (he: ∀j,i<j->j<xs.length->xs.getD j 0=ys.getD j 0)(h:xs.getD i 0<ys.getD i 0):val B xs<val B ys:=by
 have ed:xs.drop (i+1)=ys.drop (i+1):=by
  apply List.ext_getElem
  ·simp[hl]
  ·intro n h1 h2
   simp only[List.length_drop]at h1 h2;have:=he (i+1+n) (by omega) (by omega);rw[getD_in (by omega),getD_in (by omega)]at this;simpa using this
 have h1:=val_split B xs (i+1) (by omega);have h2:=val_split B ys (i+1) (by omega);rw[val_take_succ B xs i hi]at h1;rw[val_take_succ B ys i (by omega)]at h2;rw[ed]at h1;have h3:=val_lt (by omega) (hx.take i);rw[List.length_take,Nat.min_eq_left (by omega)]at h3;have h4:=val_nonneg (by omega) (hy.take i);rw[getD_in hi,getD_in (by omega)]at h;have h5:=pow_pos_ (show 0<B by omega) i;have h6:B^i*(xs[i]+1)<=B^i*ys[i]:=Int.mul_le_mul_of_nonneg_left (by omega) (by omega);rw[Int.mul_add,Int.mul_one]at h6;omega
theorem val_set(B:Int)(xs:List Int)(i:Nat)(h:i<xs.length)(v:Int):val B (xs.set i v)=val B xs+B^i*(v-xs[i]):=by
 induction xs generalizing i with
 |nil=>simp at h
 |cons x xs ih=>
  cases i with
  |zero=>simp[val_cons];omega
  |succ i=>
   simp only[List.set_cons_succ,val_cons,List.getElem_cons_succ,Int.pow_succ];rw[ih i (by simpa using h)];grind
def quad(w:Int):List Int:=[w%65536,w/65536%65536,w/4294967296%65536,w/281474976710656%65536]
theorem quad_val{w:Int}(h0:0<=w)(h1:w<18446744073709551616):val 65536 (quad w)=w:=by
 simp only[quad,val_cons,val_nil];omega
theorem quad_dg(w:Int):DG 65536 (quad w):=by
 unfold quad;exact DG.cons (by omega) (by omega) (DG.cons (by omega) (by omega) (DG.cons (by omega) (by omega) (DG.cons (by omega) (by omega) (DG.nil _))))
def quads(ws:List Int):List Int:=ws.flatMap quad
theorem quads_cons(w:Int)(ws:List Int):quads (w::ws)=quad w++quads ws:=rfl
theorem quads_append(xs ys:List Int):quads (xs++ys)=quads xs++quads ys:=by simp[quads]
theorem quads_len(ws:List Int):(quads ws).length=4*ws.length:=by
 induction ws with
 |nil=>rfl
 |cons w ws ih=>rw[quads_cons,List.length_append,ih];simp[quad];omega
theorem quads_dg(ws:List Int):DG 65536 (quads ws):=by
 induction ws with
 |nil=>exact DG.nil _
 |cons w ws ih=>rw[quads_cons];exact(quad_dg w).append ih
theorem quads_val{ws:List Int}(h:DG 18446744073709551616 ws):val 65536 (quads ws)=val 18446744073709551616 ws:=by
 induction ws with
 |nil=>rfl
 |cons w ws ih=>
  rw[quads_cons,val_append,quad_val h.head.1 h.head.2,ih h.tail,val_cons];simp[quad]
theorem nz_take{xs:List Int}{i:Nat}(hi:i<=xs.length)(h:i=0\/xs.getD (i-1) 0≠0):NZ (xs.take i):=by
 rcases Nat.eq_zero_or_pos i with h0|h0
 ·subst h0;left;simp
 ·right
  rcases h with h|h
  ·omega
  ·rw[List.length_take,Nat.min_eq_left hi,getD_in (by simp;omega),List.getElem_take]
   rwa[getD_in (by omega)]at h
theorem val_cut(B:Int){xs:List Int}{i:Nat}(hi:i<=xs.length)(h: ∀j,i<=j->j<xs.length->xs.getD j 0=0):val B (xs.take i)=val B xs:=by
 rw[val_split B xs i hi,val_zeros B (xs:=xs.drop i)]
 ·simp
 ·intro x hx
  obtain⟨n,hn,rfl⟩:=List.mem_iff_getElem.1 hx;simp only[List.length_drop]at hn;have:=h (i+n) (by omega) (by omega);rw[getD_in (by omega)]at this;simpa using this
theorem val_set'(B:Int)(xs:List Int)(i:Nat)(h:i<xs.length)(v:Int):val B (xs.set i v)=val B xs+B^i*(v-xs.getD i 0):=by
 rw[val_set B xs i h,getD_in h]
theorem getD_set{xs:List Int}{i j:Nat}(v:Int)(h:i≠j):(xs.set i v).getD j 0=xs.getD j 0:=by
 simp[List.getD_eq_getElem?_getD,List.getElem?_set,h]
theorem getD_set_self{xs:List Int}{i:Nat}(v:Int)(h:i<xs.length):(xs.set i v).getD i 0=v:=by
 simp[List.getD_eq_getElem?_getD,h]
def IsLen(n:Int)(L:Nat):Prop:=(n=0/\L=0)\/(1<=L/\2^(L-1)<=n/\n<2^L)
theorem IsLen.unique{n:Int}{L M:Nat}(h:IsLen n L)(k:IsLen n M):L=M:=by
 have p1:=fun a=>pow_pos_ (B:=2) (by omega) a
 rcases h with⟨rfl,rfl⟩|⟨h1,h2,h3⟩<;>rcases k with⟨k0,rfl⟩|⟨k1,k2,k3⟩
 ·rfl
 ·have:=p1 (M-1);omega
 ·have:=p1 (L-1);omega
 ·rcases Nat.lt_trichotomy L M with h|h|h
  ·have:=pow_le_pow_ (B:=2) (by omega) (show L<=M-1 by omega);omega
  ·exact h
  ·have:=pow_le_pow_ (B:=2) (by omega) (show M<=L-1 by omega);omega
theorem IsLen.digits{ds:List Int}(hd:DG 65536 ds){t:Int}{j:Nat}(hne:0<ds.length)(ht:t=ds.getD (ds.length-1) 0)(hj:IsLen t j)(h1:1<=j):IsLen (val 65536 ds) (16*(ds.length-1)+j):=by
 right;rcases hj with⟨_,h⟩|⟨_,h2,h3⟩
 ·omega
 obtain⟨m,hm⟩: ∃m,ds.length=m+1:=⟨ds.length-1,by omega⟩;have hv:=val_take_succ' 65536 ds m;rw[<-hm,List.take_length]at hv;rw[hm,Nat.add_sub_cancel]at ht ⊢
 rw[<-ht]at hv;have b1:=val_nonneg (by omega) (hd.take m);have b2:=val_lt (by omega) (hd.take m);rw[List.length_take,Nat.min_eq_left (by omega)]at b2;have e16:(2:Int)^(16*m)=65536^m:=by rw[Int.pow_mul];rfl
 have e1:(2:Int)^(16*m+j)=65536^m*2^j:=by rw[Int.pow_add,e16]
 have e2:(2:Int)^(16*m+j-1)=65536^m*2^(j-1):=by rw[show 16*m+j-1=16*m+(j-1)by omega,Int.pow_add,e16]
 have p:=pow_pos_ (B:=65536) (by omega) m;have m1:=Int.mul_le_mul_of_nonneg_left h2 (Int.le_of_lt p);have m2:=Int.mul_le_mul_of_nonneg_left (show t+1<=2^j by omega) (Int.le_of_lt p);rw[Int.mul_add,Int.mul_one]at m2;refine⟨by omega,?_,?_⟩
 ·rw[e2,hv];omega
 ·rw[e1,hv];omega
def sealed(x:Int)(n:Nat):Int:=if n=0 then x else sealed x (n-1)
termination_by n
theorem sealed_eq(x:Int):sealed x 0=x:=by rw[sealed,if_pos rfl]
def BIG:Int:=sealed (65536^4000000) 0
theorem BIG_eq:BIG=65536^4000000:=sealed_eq _
theorem lt_BIG{n:Int}(k:Nat)(h:n<65536^k)(hk:k<=4000000):n<BIG:=by
 have:=pow_le_pow_ (B:=65536) (by omega) hk;rw[BIG_eq];omega
theorem pow64(k:Nat):(18446744073709551616:Int)^k=65536^(4*k):=by rw[Int.pow_mul];rfl
theorem lt_BIG64{n:Int}(k:Nat)(h:n<18446744073709551616^k)(hk:k<=1000000):n<BIG:=by
 rw[pow64]at h;exact lt_BIG (4*k) h (by omega)
theorem words_BIG{xs:List Int}(hd:DG 18446744073709551616 xs)(hl:xs.length<=1000000):val 18446744073709551616 xs<BIG:=lt_BIG64 _ (val_lt (by omega) hd) hl
theorem len_BIG{xs:List Int}(hd:DG 65536 xs)(hz:NZ xs)(h:val 65536 xs<BIG):xs.length<=4000000:=len_le (by omega) hd hz (by rwa[BIG_eq]at h)
theorem len_BIG64{xs:List Int}(hd:DG 18446744073709551616 xs)(hz:NZ xs)(h:val 18446744073709551616 xs<BIG):xs.length<=1000000:=
 len_le (by omega) hd hz (by rw[pow64];rw[BIG_eq]at h;exact h)
end Go.Big
end
section
namespace Go.Big
open Go.RowKit
def Row(k:IntKind)(T:TypeId)(w:World)(b:Nat)(xs:List Int):Prop:=w.heap[b]? =some (.cells (xs.map (Value.int k)).toArray T (0,0))
structure Fr(S:List Nat)(w w':World):Prop where
 os:w'.os=w.os
 tape:w'.tape=w.tape
 output:w'.output=w.output
 size:w.heap.size<=w'.heap.size
 block: ∀b,b<w.heap.size->b∉S->w'.heap[b]? =w.heap[b]?
def Src(k:IntKind)(w:World)(b off:Nat)(xs:List Int):Prop:= ∀j,j<xs.length->w.cell? ⟨b,off+j,none⟩=some (.int k (xs.getD j 0))
section
variable {k:IntKind}{T:TypeId}{w w1 w2:World}{b c off:Nat}{xs ys:List Int}{S S':List Nat}
theorem Row.lt(h:Row k T w b xs):b<w.heap.size:=by
 rcases Nat.lt_or_ge b w.heap.size with hlt|hge
 ·exact hlt
 ·unfold Row at h;rw[Array.getElem?_eq_none hge]at h;cases h
theorem Row.cell(h:Row k T w b xs){i:Nat}(hi:i<xs.length):w.cell? ⟨b,i,none⟩=some (.int k (xs.getD i 0)):=by
 unfold Row at h;unfold World.cell?;rw[h];simp[hi,List.getD_eq_getElem?_getD]
theorem Row.src(h:Row k T w b xs)(hl:off<=xs.length):Src k w b off (xs.drop off):=by
 intro j hj;rw[List.length_drop]at hj;rw[h.cell (by omega)];simp[List.getD_eq_getElem?_getD]
theorem Row.frozen(h:Row k T w b xs)(i:Nat):w.frozen? ⟨b,i,none⟩=false:=by
 unfold Row at h;simp[World.frozen?,h]
theorem Row.eq(h:Row k T w b xs)(h':Row k T w b ys):xs=ys:=by
 unfold Row at h h';rw[h]at h';simp only[Option.some.injEq,Obj.cells.injEq,and_true]at h';have:=congrArg Array.toList h';simp only[List.map_inj_right (f:=Value.int k) (fun a b e=>by injection e)]at this;exact this
theorem Row.new(w:World)(k:IntKind)(T:TypeId)(xs:List Int):Row k T (w.alloc (.cells (xs.map (Value.int k)).toArray T)) w.heap.size xs:=heap_alloc_new w _
theorem Row.zeros(w:World)(k:IntKind)(T:TypeId)(n:Nat):Row k T (w.alloc (.cells (Array.replicate n (Value.int k 0)) T)) w.heap.size (List.replicate n 0):=by
 have:=Row.new w k T (List.replicate n 0);have e:((List.replicate n (0:Int)).map (Value.int k)).toArray=Array.replicate n (Value.int k 0):=by simp
 rwa[e]at this
theorem Row.alloc(h:Row k T w b xs)(o:Obj):Row k T (w.alloc o) b xs:=(Below.heap_alloc w o b h.lt).trans h
theorem Row.set(h:Row k T w b xs)(i:Nat)(v:Int):Row k T (w.setCell ⟨b,i,none⟩ (.int k v)) b (xs.set i v):=by
 unfold Row at h ⊢
 simp[World.setCell,Array.getElem?_modify,h,List.map_set]
theorem Row.drewN(h:Row k T w b xs)(n:Nat):Row k T (w.drewN n) b xs:=h
theorem Row.drew(h:Row k T w b xs):Row k T w.drew b xs:=h
theorem Row.far(h:Row k T w b xs){p:Addr}(hp:b≠p.block)(u:Value):Row k T (w.setCell p u) b xs:=(Below.heap_setCell w p u b hp).trans h
theorem Row.fr(h:Row k T w b xs)(hf:Fr S w w1)(hb:b∉S):Row k T w1 b xs:=(hf.block b h.lt hb).trans h
theorem Fr.refl(S:List Nat)(w:World):Fr S w w:=⟨rfl,rfl,rfl,Nat.le_refl _,fun _ _ _=>rfl⟩
theorem Fr.trans(h:Fr S w w1)(h':Fr S' w1 w2)(hS: ∀b,b∈S'->b<w.heap.size->b∈S):Fr S w w2:=
 ⟨h'.os.trans h.os,h'.tape.trans h.tape,h'.output.trans h.output,Nat.le_trans h.size h'.size,fun b hb hn=>
   (h'.block b (Nat.lt_of_lt_of_le hb h.size) (fun hm=>hn (hS b hm hb))).trans (h.block b hb hn)⟩
theorem Fr.t(h:Fr [] w w1)(h':Fr [] w1 w2):Fr [] w w2:=h.trans h' (by simp)
theorem Fr.mono(h:Fr S w w1)(hS: ∀b,b∈S->b∈S'):Fr S' w w1:=⟨h.os,h.tape,h.output,h.size,fun b hb hn=>h.block b hb (fun hm=>hn (hS b hm))⟩
theorem Fr.drewN(h:Fr S w w1)(n:Nat):Fr S w (w1.drewN n):=⟨h.os,h.tape,h.output,h.size,h.block⟩
theorem Fr.drew(h:Fr S w w1):Fr S w w1.drew:=⟨h.os,h.tape,h.output,h.size,h.block⟩
theorem Fr.alloc(h:Fr S w w1)(o:Obj):Fr S w (w1.alloc o):=
 ⟨h.os,h.tape,h.output,Nat.le_trans h.size (by simp),fun b hb hn=>(Below.heap_alloc w1 o b (Nat.lt_of_lt_of_le hb h.size)).trans (h.block b hb hn)⟩
theorem Fr.set(h:Fr S w w1){p:Addr}(hp:p.block∈S\/w.heap.size<=p.block)(u:Value):Fr S w (w1.setCell p u):=
 ⟨h.os,h.tape,h.output,by simpa[World.setCell]using h.size,fun b hb hn=>(Below.heap_setCell w1 p u b (by
   rintro rfl;rcases hp with hp|hp
   ·exact hn hp
   ·omega)).trans (h.block b hb hn)⟩
theorem Fr.grown{row:Option Nat}(h:Fr S w w1)(hg:w1.grownBy w2 row)(hr: ∀g,row=some g->g∈S\/w.heap.size<=g):Fr S w w2:=
 ⟨hg.os.trans h.os,hg.tape.trans h.tape,hg.output.trans h.output,Nat.le_trans h.size hg.size,fun b hb hn=>
   (hg.block b (Nat.lt_of_lt_of_le hb h.size) (fun e=>by
     rcases hr b e.symm with hm|hm
     ·exact hn hm
     ·omega)).trans (h.block b hb hn)⟩
theorem Fr.cell(h:Fr S w w1){p:Addr}(hp:p.block<w.heap.size)(hn:p.block∉S):w1.cell? p=w.cell? p:=World.cell?_of_block (h.block _ hp hn)
theorem Fr.cell_some(h:Fr S w w1){p:Addr}{v:Value}(hc:w.cell? p=some v)(hn:p.block∉S):w1.cell? p=some v:=by
 have hp:p.block<w.heap.size:=by
  rcases Nat.lt_or_ge p.block w.heap.size with hlt|hge
  ·exact hlt
  ·unfold World.cell? at hc;rw[Array.getElem?_eq_none hge]at hc;cases hc
 exact(h.cell hp hn).trans hc
theorem Src.fr(h:Src k w b off xs)(hf:Fr S w w1)(hb:b∉S):Src k w1 b off xs:=fun j hj=>hf.cell_some (h j hj) hb
theorem Src.take(h:Src k w b off xs)(n:Nat):Src k w b off (xs.take n):=fun j hj=>by
 rw[List.length_take]at hj;rw[h j (by omega)];have:j<n:=by omega
 simp[List.getD_eq_getElem?_getD,this]
theorem Src.drop(h:Src k w b off xs)(n:Nat):Src k w b (off+n) (xs.drop n):=fun j hj=>by
 rw[List.length_drop]at hj;have:=h (n+j) (by omega);rw[<-Nat.add_assoc]at this;rw[this];simp[List.getD_eq_getElem?_getD]
end
def Sl(k:IntKind)(w:World)(v:Value)(xs:List Int):Prop:=
 ∃A cap,v= .slice A xs.length cap/\xs.length<=cap/\cap<=maxLen/\(0<xs.length-> ∃b off,A=some ⟨b,off,none⟩/\b<w.heap.size/\Src k w b off xs)
theorem Sl.fr{k:IntKind}{w w1:World}{v:Value}{xs:List Int}{S:List Nat}(h:Sl k w v xs)(hf:Fr S w w1)(hS: ∀b,b∈S->w.heap.size<=b):Sl k w1 v xs:=by
 obtain⟨A,cap,rfl,h1,h2,h3⟩:=h;refine⟨A,cap,rfl,h1,h2,fun hn=> ?_⟩;obtain⟨b,off,rfl,hb,hs⟩:=h3 hn;exact⟨b,off,rfl,Nat.lt_of_lt_of_le hb hf.size,hs.fr hf (fun hm=>by have:=hS b hm;omega)⟩
theorem Sl.fr0{k:IntKind}{w w1:World}{v:Value}{xs:List Int}(h:Sl k w v xs)(hf:Fr [] w w1):Sl k w1 v xs:=h.fr hf (by simp)
theorem Sl.nil(k:IntKind)(w:World):Sl k w (.slice none 0 0) []:=⟨none,0,rfl,by simp,by simp,by simp⟩
theorem Row.sl{k:IntKind}{T:TypeId}{w:World}{b:Nat}{xs:List Int}(h:Row k T w b xs)(hl:xs.length<=1099511627776):Sl k w (.slice (some ⟨b,0,none⟩) xs.length xs.length) xs:=
 ⟨_,xs.length,rfl,Nat.le_refl _,by unfold maxLen;omega,fun _=>⟨b,0,rfl,h.lt,fun j hj=>by rw[Nat.zero_add];exact h.cell hj⟩⟩
theorem Sl.cut{k:IntKind}{w:World}{A:Option Addr}{cap:Nat}{xs:List Int}{i:Nat}(h:Sl k w (.slice A xs.length cap) xs)(hi:i<=xs.length):Sl k w (.slice A i cap) (xs.take i):=by
 obtain⟨A',cap',e,h1,h2,h3⟩:=h;injection e with e1 e2 e3;subst e1 e3;refine⟨A,cap,by rw[List.length_take,Nat.min_eq_left hi],by rw[List.length_take];omega,h2,fun hp=> ?_⟩;rw[List.length_take]at hp;obtain⟨b,off,e,hb,hs⟩:=h3 (by omega);exact⟨b,off,e,hb,hs.take i⟩
def SN(w:World)(v:Value)(n:Int):Prop:= ∃ds,Sl .i64 w v ds/\DG 65536 ds/\NZ ds/\val 65536 ds=n
theorem SN.fr0{w w1:World}{v:Value}{n:Int}(h:SN w v n)(hf:Fr [] w w1):SN w1 v n:=by
 obtain⟨ds,h1,h2⟩:=h;exact⟨ds,h1.fr0 hf,h2⟩
end Go.Big
end
section
namespace Go.Big
open Go.RowKit
def Own(k:IntKind)(T:TypeId)(w0 w:World)(v:Value)(xs:List Int):Prop:=w.ownsRow w0.heap.size T 1 v xs.length (xs.map (Value.int k))
def IntTy(P:Program)(k:IntKind)(t T:TypeId)(bytes:Nat):Prop:=
 P.underlying t=some (.slice T)/\(P.info? T).map (fun i=>(i.zero,i.size,i.bytes))=some (some (.int k 0),1,bytes)
section
variable {k:IntKind}{T:TypeId}{w0 w w1:World}{v:Value}{xs ys:List Int}{S:List Nat}
theorem Own.alloc(h:Own k T w0 w v xs)(o:Obj):Own k T w0 (w.alloc o) v xs:=World.ownsRow.alloc h o
theorem Own.lit0(k:IntKind)(T:TypeId)(w0 w:World)(h:w0.heap.size<=w.heap.size):Own k T w0 (w.alloc (.cells #[] T)) (.slice (some ⟨w.heap.size,0,none⟩) 0 0) []:=
 World.ownsRow_lit w #[] 0 h (by simp) (by simp)
theorem Own.sl(h:Own k T w0 w v xs):Sl k w v xs:=by
 obtain⟨hl,⟨rfl,hn⟩|⟨g,cap,cur,rfl,hb,hg,hn,hc,hs,ht⟩⟩:=h
 ·have:xs=[]:=List.eq_nil_of_length_eq_zero hn
  subst this;exact Sl.nil _ _
 ·refine⟨_,cap,rfl,hn,hc,fun hp=>⟨g,0,rfl,?_,fun j hj=> ?_⟩⟩
  ·rcases Nat.lt_or_ge g w.heap.size with hlt|hge
   ·exact hlt
   ·rw[Array.getElem?_eq_none hge]at hg;cases hg
  ·rw[cell_of_row w g (0+j) cur T (0,0) hg]
   have h1:(cur.toList.take (xs.length*1))[j]? =(xs.map (Value.int k))[j]? :=by rw[ht]
   rw[List.getElem?_take]at h1;simp only[Nat.mul_one,hj,if_true,Array.getElem?_toList]at h1;rw[Nat.zero_add,h1];simp[hj,List.getD_eq_getElem?_getD]
end
section
variable {P:Program}{ops:Array Oper}{rest:List Oper}{o:Oper}{a:Act}{Q:Exit->Act->World->Prop}
theorem grown_fr{w0 w w':World}{S:List Nat}{k:IntKind}{T:TypeId}{v:Value}{xs:List Int}(hf:Fr S w0 w)(hown:Own k T w0 w v xs)(hg:w.grownBy w' v.ownBlock):Fr S w0 w':=
 hf.grown hg fun g hgv=> .inr (World.ownsRow.lt hown g hgv).1
theorem wp_app1{w:World}(hgd:o.guard=none)(s x:Operand)(t:TypeId)(ho:o.op= .call {callee:= .builtin .append,args:= #[s,x],argTypes:= #[t,t]})
 (k:IntKind)(T:TypeId)(bytes:Nat)(ht:IntTy P k t T bytes)(hby:bytes<=8)(w0:World)(S:List Nat)(v:Value)(xs:List Int)(y:Int)
 (hs:a.eval s=v)(hown:Own k T w0 w v xs)(hf:Fr S w0 w)(hx:a.eval x= .slice (some ⟨w.heap.size,0,none⟩) 1 1)(hlen:xs.length<1099511627776)
 (h: ∀v' w',Own k T w0 w' v' (xs++[y])->Fr S w0 w'->wpList P ops Q rest (a.put o.dst v') w'):
 wpList P ops Q (o::rest) a (w.alloc (.cells #[.int k y] T)):=by
 obtain⟨ht,hi⟩:=ht;obtain⟨i,hi,hz,hsz,hb⟩:=info_parts hi
 refine wpList_append_own _ hgd s x t ho w0.heap.size T i (.int k 0) 1 bytes ht hi hz hsz hb rfl (by omega) v xs.length (xs.map (Value.int k)) hs (hown.alloc _) _ 1 1 [.int k y] hx rfl
  ?_ ?_ ?_ ?_ ?_ ?_
 ·intro j u hj
  rcases Nat.eq_zero_or_pos j with rfl|hp
  ·simp at hj;subst hj;rw[show(⟨w.heap.size,0,none⟩:Addr).add 0=⟨w.heap.size,0,none⟩from rfl,World.cell?_alloc_at _ _ _ _ rfl];rfl
  ·rw[List.getElem?_eq_none (by simp;omega)]at hj;cases hj
 ·intro u hu;simp at hu;subst hu;rfl
 ·unfold maxLen;omega
 ·have:(xs.length+1)*bytes<=1099511627776*8:=Nat.mul_le_mul (by omega) hby
  omega
 ·exact Nat.le_trans hf.size (by simp)
 ·intro v' w' hown' hg _
  refine h v' w' ?_ (grown_fr (hf.alloc _) (hown.alloc _) hg);unfold Own;simpa using hown'
theorem cells_list(k:IntKind)(n:Nat):(madeCells #[.int k 0] n)=((List.replicate n (0:Int)).map (Value.int k)).toArray:=by
 apply Array.toList_inj.1;rw[toList_madeCells_one];simp
theorem run_mk(k:IntKind)(t T:TypeId)(bytes:Nat)(ht:IntTy P k t T bytes)(hby:bytes<=8)(n:Nat)(hn:n<=1099511627776)(w:World):
 (Instr.makeSlice t (.int .i64 (n:Int)) (.int .i64 (n:Int))).run P w=
   .ok (.slice (some ⟨w.heap.size,0,none⟩) n n) (w.alloc (.cells (Array.replicate n (Value.int k 0)) T)):=by
 obtain⟨ht,hi⟩:=ht;obtain⟨i,hi,hz,hsz,hb⟩:=info_parts hi
 have hbb:(i.bytes:Int)*(n:Int)<=281474976710656:=by
  have:bytes*n<=8*1099511627776:=Nat.mul_le_mul hby hn;rw[hb];omega
 have:=run_make (P:=P) w t T i (.int k 0) ht hi hz .i64 .i64 (n:Int) (n:Int) (by omega) (by omega) hbb (by omega);rw[this];simp only[Int.toNat_natCast,hsz,Nat.mul_one];rw[show(Value.int k 0).cells= #[.int k 0]from rfl,cells_list];simp
theorem wp_mk{w:World}(hgd:o.guard=none)(l c:Operand)(t:TypeId)(ho:o.op= .makeSlice t l c)(k:IntKind)(T:TypeId)(bytes:Nat)(ht:IntTy P k t T bytes)(hby:bytes<=8)
 (n:Nat)(hl:a.eval l= .int .i64 (n:Int))(hc:a.eval c= .int .i64 (n:Int))(hn:n<=1099511627776)
 (h: ∀g w',w.heap.size<=g->Row k T w' g (List.replicate n 0)->Fr [] w w'->wpList P ops Q rest (a.put o.dst (.slice (some ⟨g,0,none⟩) n n)) w'):wpList P ops Q (o::rest) a w:=by
 refine wpList_plain hgd fun K hK=> ?_
 have hrun:=run_mk k t T bytes ht hby n hn w;unfold Oper.wp;simp[execOp,ho,hl,hc,hrun,Result.andThen];exact hK _ _ (h _ _ (Nat.le_refl _) (Row.zeros _ _ _ _) ((Fr.refl _ _).alloc _))
theorem wp_apps{w:World}(hgd:o.guard=none)(s x:Operand)(t:TypeId)(ho:o.op= .call {callee:= .builtin .append,args:= #[s,x],argTypes:= #[t,t]})
 (k:IntKind)(T:TypeId)(bytes:Nat)(ht:IntTy P k t T bytes)(hby:bytes<=8)(w0:World)(S:List Nat)(v:Value)(xs:List Int)(v2:Value)(ys:List Int)
 (hs:a.eval s=v)(hown:Own k T w0 w v xs)(hf:Fr S w0 w)(hx:a.eval x=v2)(hy:Sl k w v2 ys)(hlen:xs.length+ys.length<1099511627776)
 (h: ∀v' w',Own k T w0 w' v' (xs++ys)->Fr S w0 w'->wpList P ops Q rest (a.put o.dst v') w'):wpList P ops Q (o::rest) a w:=by
 obtain⟨ht,hi⟩:=ht;obtain⟨i,hi,hz,hsz,hb⟩:=info_parts hi;obtain⟨A,cap,rfl,h1,h2,h3⟩:=hy
 have hbytes:(xs.length+ys.length)*bytes<=140737488355328:=by
  have:(xs.length+ys.length)*bytes<=1099511627776*8:=Nat.mul_le_mul (by omega) hby;omega
 have fin: ∀v' w',w'.ownsRow w0.heap.size T 1 v' (xs.length+ys.length) (xs.map (Value.int k)++ys.map (Value.int k))->w.grownBy w' v.ownBlock->wpList P ops Q rest (a.put o.dst v') w':=by
  intro v' w' hown' hg;refine h v' w' ?_ (grown_fr hf hown hg);unfold Own;simpa using hown'
 rcases A with _|ad
 ·have hys:ys=[]:=by
   rcases Nat.eq_zero_or_pos ys.length with h0|h0
   ·exact List.eq_nil_of_length_eq_zero h0
   ·obtain⟨b,off,e,_⟩:=h3 h0;cases e
  subst hys
  have hrun:(Builtin.append_ #[t,t] o.type #[v,.slice none ([]:List Int).length cap]).run P w= .ok v w:=by
   rcases hown.2 with⟨rfl,hn⟩|⟨g,cap',cur,rfl,_,_,hnc,_⟩
   ·simp[Builtin.append_,run_underlying ht,sizeOf,typeInfo,hi,Builtin.lenOf,Builtin.firstCells]
   ·simp[Builtin.append_,run_underlying ht,sizeOf,typeInfo,hi,Builtin.lenOf,Builtin.firstCells,hnc,storeCells]
  refine wpList_plain hgd fun K hK=> ?_
  unfold Oper.wp execOp;simp only[ho,resolve,invoke,builtin,Sem.run_bind,Sem.run_pure,Result.andThen_ok,List.map_toArray,List.map_cons,List.map_nil,hs,hx,hrun];exact hK _ _ (fin v w (by simpa[Own]using hown) ⟨rfl,rfl,rfl,Nat.le_refl _,fun _ _ _=>rfl⟩)
 ·refine wpList_append_own _ hgd s x t ho w0.heap.size T i (.int k 0) 1 bytes ht hi hz hsz hb rfl (by omega) v xs.length (xs.map (Value.int k)) hs hown ad ys.length cap (ys.map (Value.int k)) hx (by simp)
   ?_ (ints_oneCell k ys) (by unfold maxLen;omega) hbytes hf.size fun v' w' h1 h2 _=>fin v' w' h1 h2
  intro j u hj;rw[List.getElem?_map]at hj
  have hlt:j<ys.length:=by
   rcases Nat.lt_or_ge j ys.length with hl|hl
   ·exact hl
   ·rw[List.getElem?_eq_none hl]at hj;cases hj
  obtain⟨b,off,e,_,hsrc⟩:=h3 (by omega);injection e with e;subst e;have hc:=hsrc j hlt;rw[List.getElem?_eq_getElem hlt]at hj;simp only[Option.map_some,Option.some.injEq]at hj;subst hj;rw[getD_in hlt]at hc;rw[<-hc];unfold Addr.add;split
  ·rename_i hj0;subst hj0;rfl
  ·rfl
end
end Go.Big
end
section
namespace Go.Proofs.YthecibbmbnpegaaGreatDoor
open Go.Big Go.RowKit
def CutAt(ds:List Int)(i:Nat):Prop:=i<=ds.length/\(i=0\/ds.getD (i-1) 0≠0)/\ ∀j,i<=j->j<ds.length->ds.getD j 0=0
def Trimmed(A:Option Addr)(cap:Nat)(ds:List Int)(w:World)(e:Ending)(w':World):Prop:= ∃i,CutAt ds i/\e= .returned (.slice A i cap)/\w=w'
theorem trim_any(A:Option Addr)(cap:Nat)(ds:List Int)(w:World)(hl:ds.length<=cap)(hm:cap<=maxLen)(hA:0<ds.length-> ∃b off,A=some ⟨b,off,none⟩/\Src .i64 w b off ds):
 Calls Tryz.prog 13 #[.slice A ds.length cap] w (Trimmed A cap ds w):=by
 unfold maxLen at hm;go_enter Tryz.func13,Tryz.ntmps13;go_wp2;go_loop [0] (fun v=> ∃i:Nat,i<=ds.length/\v= .slice A i cap/\ ∀j,i<=j->j<ds.length->ds.getD j 0=0) (fun v=>match v with| .slice _ n _=>n|_=>0);case atStart=>exact⟨ds.length,Nat.le_refl _,rfl,fun j h1 h2=>absurd h2 (by omega)⟩
 case round=>
  obtain⟨i,hi,rfl,hz⟩:=hrel;have HZ:=κ hz;clear hz;rcases Nat.eq_zero_or_pos i with rfl|hp
  ·go_wp2
   go_ret;exact⟨0,⟨by omega,.inl rfl,HZ.out⟩,rfl,rfl⟩
  ·obtain⟨k,rfl⟩: ∃k,i=k+1:=⟨i-1,by omega⟩
   obtain⟨b,off,rfl,hs⟩:=hA (by omega);have hc:=hs k (by omega);obtain⟨x,hx⟩: ∃x,x=ds.getD k 0:=⟨_,rfl⟩;rw[<-hx]at hc;have HX:=κ hx;clear hx hs hA;by_cases h0:x=0
   ·subst h0
    go_wp2;go_round
    case rel=>
     refine⟨k,by omega,rfl,fun j h1 h2=> ?_⟩;by_cases e:j=k
     ·subst e;exact HX.out.symm
     ·exact HZ.out j (by omega) h2
    case measure=>simp
   ·go_wp2
    go_ret;exact⟨k+1,⟨hi,.inr (by rw[Nat.add_sub_cancel,<- HX.out];exact h0),HZ.out⟩,rfl,rfl⟩
end Go.Proofs.YthecibbmbnpegaaGreatDoor
end
section
namespace Go.Proofs.YthecibbmbnpegaaGreatDoor
open Go.Big Go.RowKit
theorem ty_nat:IntTy Tryz.prog .i64 26 3 8:=⟨Tryz.underlying26,by kernel_rfl⟩
theorem ty_uints:IntTy Tryz.prog .u64 22 36 8:=⟨Tryz.underlying22,by kernel_rfl⟩
theorem and16(x:Int)(h0:0<=x)(h1:x<18446744073709551616):wrap64 (bits .and .u64 x 65535)=x%65536:=by
 rw[u64_and x 65535 h0 h1 (by omega) (by omega)];rw[show(65535:Int).toNat=2^16-1 from rfl,Nat.and_two_pow_sub_one_eq_mod];rw[IntWalk.wrap64_in _ (by omega)];omega
theorem and16_1(x:Int)(h0:0<=x)(h1:x<18446744073709551616):wrap64 (bits .and .u64 (x/65536) 65535)=x/65536%65536:=and16 _ (by omega) (by omega)
theorem and16_2(x:Int)(h0:0<=x)(h1:x<18446744073709551616):wrap64 (bits .and .u64 (x/4294967296) 65535)=x/4294967296%65536:=and16 _ (by omega) (by omega)
theorem and16_3(x:Int)(h0:0<=x)(h1:x<18446744073709551616):wrap64 (bits .and .u64 (x/281474976710656) 65535)=x/281474976710656%65536:=and16 _ (by omega) (by omega)
def RetSN(n:Int)(w:World)(e:Ending)(w':World):Prop:= ∃v,e= .returned v/\SN w' v n/\Fr [] w w'
theorem trim_own{w0:World}{v:Value}{ds:List Int}{w:World}(h:Own .i64 3 w0 w v ds)(hd:DG 65536 ds)(hf:Fr [] w0 w):
 Calls Tryz.prog 13 #[v] w (RetSN (val 65536 ds) w0):=by
 obtain⟨A,cap,rfl,h1,h2,h3⟩:=h.sl;refine(trim_any A cap ds w h1 h2 (fun hp=> ?_)).mono ?_
 ·obtain⟨b,off,e,_,hs⟩:=h3 hp
  exact⟨b,off,e,hs⟩
 ·rintro e w' ⟨i,⟨hi,hz,hzs⟩,rfl,rfl⟩
  refine⟨_,rfl,⟨ds.take i,⟨A,cap,by rw[List.length_take,Nat.min_eq_left hi],?_,h2,fun hp=> ?_⟩,hd.take i,nz_take hi hz,val_cut 65536 hi hzs⟩,hf⟩
  ·rw[List.length_take];omega
  ·rw[List.length_take]at hp
   obtain⟨b,off,e,hb,hs⟩:=h3 (by omega);exact⟨b,off,e,hb,hs.take i⟩
theorem of_any(v:Value)(xs:List Int)(w:World)(hx:Sl .u64 w v xs)(hd:DG 18446744073709551616 xs)(hl:xs.length<=1000000):
 Calls Tryz.prog 6 #[v] w (RetSN (val 18446744073709551616 xs) w):=by
 obtain⟨A,cap,rfl,hlc,hm,hsrc⟩:=hx;unfold maxLen at hm;have HD:=κ hd;clear hd;go_enter Tryz.func6,Tryz.ntmps6;go_wp2_with fail;go_loopg [3,10] xs.length (fun g out iv wr=> ∃i:Nat,i<=xs.length/\g=xs.length-i/\iv= .int .i64 i/\Own .i64 3 w wr out (quads (xs.take i))/\Fr [] w wr);case atStart=>exact⟨0,by omega,rfl,rfl,Own.lit0 _ _ _ _ (Nat.le_refl _),(Fr.refl _ _).alloc _⟩
 case round=>
  obtain⟨i,hi,rfl,rfl,hown,hf⟩:=hrel;by_cases hlt:i<xs.length
  ·obtain⟨b,off,rfl,hb,hs⟩:=hsrc (by omega)
   have hc:=(hs.fr hf (by simp)) i hlt;obtain⟨x,hx⟩: ∃x,x=xs.getD i 0:=⟨_,rfl⟩;rw[<-hx]at hc;have hxd:=HD.out.getD (by omega) i;rw[<-hx]at hxd;obtain⟨hx0,hx1⟩:=hxd;have HX:=κ hx;clear hx hs hsrc;go_wp2_with fail;clear hc;obtain⟨wo,rfl⟩: ∃wo:World,wo=wr:=⟨_,rfl⟩;go_loopg [3,6] 4 (fun g out jv wr=> ∃j:Nat,j<=4/\g=4-j/\jv= .int .i64 j/\Own .i64 3 w wr out (quads (xs.take i)++(quad x).take j)/\Fr [] w wr);case atStart=>exact⟨0,by omega,rfl,rfl,by simpa using hown,hf⟩
   case round=>
    clear hown hf;obtain⟨j,hj,rfl,rfl,hown,hf⟩:=hrel
    have hlen:(quads (xs.take i)++(quad x).take j).length<1099511627776:=by
     rw[List.length_append,quads_len,List.length_take,List.length_take];simp[quad];omega
    have HL:=κ hlen;clear hlen;rcases(by omega:j=0\/j=1\/j=2\/j=3\/j=4)with rfl|rfl|rfl|rfl|rfl
    ·go_wp2_with (at_builtin;refine wp_app1 rfl (.tmp 18) (.tmp 25) _ rfl .i64 _ 8 ty_nat (by omega) w [] _ _ _ rfl hown hf rfl HL.out ?_;intro v' w' hown' hf')
     go_roundg 3;case measure=>omega
     case rel=>rw[and16 x hx0 hx1]at hown';exact⟨1,by omega,rfl,rfl,by simpa[quad]using hown',hf'⟩
    ·go_wp2_with (at_builtin;refine wp_app1 rfl (.tmp 18) (.tmp 25) _ rfl .i64 _ 8 ty_nat (by omega) w [] _ _ _ rfl hown hf rfl HL.out ?_;intro v' w' hown' hf')
     go_roundg 2;case measure=>omega
     case rel=>rw[and16_1 x hx0 hx1]at hown';exact⟨2,by omega,rfl,rfl,by simpa[quad]using hown',hf'⟩
    ·go_wp2_with (at_builtin;refine wp_app1 rfl (.tmp 18) (.tmp 25) _ rfl .i64 _ 8 ty_nat (by omega) w [] _ _ _ rfl hown hf rfl HL.out ?_;intro v' w' hown' hf')
     go_roundg 1;case measure=>omega
     case rel=>rw[and16_2 x hx0 hx1]at hown';exact⟨3,by omega,rfl,rfl,by simpa[quad]using hown',hf'⟩
    ·go_wp2_with (at_builtin;refine wp_app1 rfl (.tmp 18) (.tmp 25) _ rfl .i64 _ 8 ty_nat (by omega) w [] _ _ _ rfl hown hf rfl HL.out ?_;intro v' w' hown' hf')
     go_roundg 0;case measure=>omega
     case rel=>rw[and16_3 x hx0 hx1]at hown';exact⟨4,by omega,rfl,rfl,by simpa[quad]using hown',hf'⟩
    ·go_wp2_with fail
     go_roundg (xs.length-(i+1));case measure=>omega
     case rel=>
      refine⟨i+1,by omega,rfl,by go_num,?_,hf⟩;rw[List.take_succ_eq_append_getElem hlt,quads_append];have e:quads [xs[i]]=quad x:=by rw[HX.out,getD_in hlt];simp[quads]
      rw[e];simpa[quad]using hown
  ·obtain rfl:i=xs.length:=by omega
   rw[List.take_length]at hown;go_wp2_with (go_at_call 13;refine(trim_own hown (quads_dg _) hf).mono ?_;rintro e w' ⟨v',rfl,hsn,hf'⟩);go_ret;rw[quads_val HD.out]at hsn;exact⟨v',rfl,hsn,hf'⟩
end Go.Proofs.YthecibbmbnpegaaGreatDoor
end
section
namespace Go.Proofs.YthecibbmbnpegaaGreatDoor
open Go.Big Go.RowKit
def cmpI(a b:Int):Int:=if a<b then -1 else if b<a then 1 else 0
theorem cmpI_lt{a b:Int}(h:a<b):cmpI a b= -1:=by unfold cmpI;rw[if_pos h]
theorem cmpI_gt{a b:Int}(h:b<a):cmpI a b=1:=by unfold cmpI;rw[if_neg (by omega),if_pos h]
theorem cmpI_eq(a:Int):cmpI a a=0:=by unfold cmpI;rw[if_neg (by omega),if_neg (by omega)]
theorem row1(w:World)(k:IntKind)(T:TypeId)(x:Int):Sl k (w.alloc (.cells #[.int k x] T)) (.slice (some ⟨w.heap.size,0,none⟩) 1 1) [x]:=by
 refine⟨_,1,rfl,by simp,by simp[maxLen],fun _=>⟨_,0,rfl,by simp,fun j hj=> ?_⟩⟩;have:=(Row.new w k T [x]).cell (i:=j) hj;simpa using this
theorem row2(w:World)(k:IntKind)(T:TypeId)(x y:Int):Sl k (w.alloc (.cells #[.int k x,.int k y] T)) (.slice (some ⟨w.heap.size,0,none⟩) 2 2) [x,y]:=by
 refine⟨_,2,rfl,by simp,by simp[maxLen],fun _=>⟨_,0,rfl,by simp,fun j hj=> ?_⟩⟩;have:=(Row.new w k T [x,y]).cell (i:=j) hj;simpa using this
theorem cmp_any(va vb:Value)(n m:Int)(w:World)(ha:SN w va n)(hb:SN w vb m):
 Calls Tryz.prog 22 #[va,vb] w fun e w'=>e= .returned (.int .i64 (cmpI n m))/\Fr [] w w':=by
 obtain⟨da,⟨A,ca,rfl,hla,hma,hsa⟩,dga,nza,rfl⟩:=ha;obtain⟨db,⟨B,cb,rfl,hlb,hmb,hsb⟩,dgb,nzb,rfl⟩:=hb;unfold maxLen at hma hmb;have DA:=κ dga;have DB:=κ dgb;have NA:=κ nza;have NB:=κ nzb;clear dga dgb nza nzb;rcases Nat.lt_trichotomy da.length db.length with h|h|h
 ·go_enter Tryz.func22,Tryz.ntmps22
  go_wp2;go_ret;exact⟨by rw[cmpI_lt (lt_of_shorter (by omega) DA.out DB.out NB.out h)];rfl,Fr.refl _ _⟩
 ·have hle:da.length<=db.length:=by omega
  have hge:db.length<=da.length:=by omega
  have HE:=κ h;clear h;go_enter Tryz.func22,Tryz.ntmps22;go_wp2_with fail;go_loopg [5] (da.length+1) (fun g iv wr=> ∃(k:Nat) (z:Int),k<=da.length/\z=k-1/\g=k+1/\iv= .int .i64 z/\(∀j,k<=j->j<da.length->da.getD j 0=db.getD j 0)/\Fr [] w wr);case atStart=>exact⟨da.length,_,Nat.le_refl _,rfl,rfl,rfl,fun j h1 h2=>absurd h2 (by omega),Fr.refl _ _⟩
  case round=>
   obtain⟨k,z,hk,hz,rfl,rfl,hsame,hf⟩:=hrel;have HS:=κ hsame;clear hsame;rcases Nat.eq_zero_or_pos k with rfl|hp
   ·obtain rfl:z= -1:=by omega
    clear hz;go_wp2_with fail;go_ret
    have:da=db:=by
     apply List.ext_getElem HE.out;intro j h1 h2;have:=HS.out j (by omega) h1;rwa[getD_in h1,getD_in h2]at this
    rw[this,cmpI_eq];exact⟨rfl,hf⟩
   ·obtain⟨j,rfl⟩: ∃j,k=j+1:=⟨k-1,by omega⟩
    obtain rfl:z=(j:Int):=by omega
    clear hz;obtain⟨ba,oa,rfl,_,sa⟩:=hsa (by omega);obtain⟨bb,ob,rfl,_,sb⟩:=hsb (by omega);have cA:=(sa.fr hf (by simp)) j (by omega);have cB:=(sb.fr hf (by simp)) j (by omega);obtain⟨x,hx⟩: ∃x,x=da.getD j 0:=⟨_,rfl⟩;obtain⟨y,hy⟩: ∃y,y=db.getD j 0:=⟨_,rfl⟩;rw[<-hx]at cA;rw[<-hy]at cB;have HX:=κ hx;have HY:=κ hy;clear hx hy sa sb hsa hsb;have hj:j<da.length:=by omega
    have hj2:j<db.length:=by omega
    rcases Int.lt_trichotomy x y with hc|hc|hc
    ·go_wp2_with fail
     go_quiet (fail);go_wp2_with fail;go_ret;exact⟨by rw[cmpI_lt (lt_of_top (by omega) DA.out DB.out HE.out hj HS.out (by rw[<-HX.out,<- HY.out];exact hc))];rfl,hf.drewN _⟩
    ·subst hc
     go_wp2_with fail;go_quiet (fail);go_wp2_with fail;go_quiet (fail);go_wp2_with fail;go_roundg (j+1);case measure=>omega
     case rel=>
      refine⟨j,_,by omega,rfl,rfl,rfl,fun i h1 h2=> ?_,hf.drewN _⟩;by_cases e:i=j
      ·subst e;rw[<-HX.out,HY.out]
      ·exact HS.out i (by omega) h2
    ·go_wp2_with fail
     go_quiet (fail);go_wp2_with fail;go_quiet (fail);go_wp2_with fail;go_ret;exact⟨by rw[cmpI_gt (lt_of_top (by omega) DB.out DA.out HE.out.symm hj2 (fun i h1 h2=>(HS.out i h1 (by omega)).symm) (by rw[<-HX.out,<- HY.out];exact hc))];rfl,(hf.drewN _).drewN _⟩
 ·go_enter Tryz.func22,Tryz.ntmps22
  go_wp2;go_ret;exact⟨by rw[cmpI_gt (lt_of_shorter (by omega) DB.out DA.out NA.out h)];rfl,Fr.refl _ _⟩
theorem cmp_same(va vb:Value)(n:Int)(w:World)(ha:SN w va n)(hb:SN w vb n):
 Calls Tryz.prog 22 #[va,vb] w fun e w'=>e= .returned (.int .i64 0)/\Fr [] w w':=by
 have:=cmp_any va vb n n w ha hb;rwa[cmpI_eq]at this
end Go.Proofs.YthecibbmbnpegaaGreatDoor
end
section
namespace Go.Proofs.YthecibbmbnpegaaGreatDoor
open Go.Big Go.RowKit
def RetLen(n:Int)(w:World)(e:Ending)(w':World):Prop:= ∃L:Nat,e= .returned (.int .i64 (L:Int))/\IsLen n L/\L<=64000000/\w=w'
theorem isLen_div{t:Int}{j:Nat}(ht:0<=t)(h1:t/2^j=0)(h2:j=0\/0<t/2^(j-1)):IsLen t j:=by
 have p1:=pow_pos_ (B:=2) (by omega) j;have e1:=Int.emod_add_mul_ediv t (2^j);have e2:=Int.emod_lt_of_pos t p1;rw[h1]at e1;rcases h2 with rfl|h2
 ·left;simp at h1;exact⟨by omega,rfl⟩
 ·by_cases hj:j=0
  ·subst hj;simp at h1 h2;omega
  ·right
   have p2:=pow_pos_ (B:=2) (by omega) (j-1);refine⟨by omega,?_,by omega⟩;have:=Int.mul_le_mul_of_nonneg_left (show 1<=t/2^(j-1)by omega) (Int.le_of_lt p2);have e3:=Int.emod_add_mul_ediv t (2^(j-1));have e4:=Int.emod_nonneg t (show(2:Int)^(j-1)≠0 by omega);omega
theorem len_any(va:Value)(n:Int)(w:World)(ha:SN w va n)(hn:n<BIG):Calls Tryz.prog 12 #[va] w (RetLen n w):=by
 obtain⟨ds,⟨A,ca,rfl,hla,hma,hsa⟩,dga,nza,rfl⟩:=ha;have la:=len_BIG dga nza hn;unfold maxLen at hma;have DA:=κ dga;have NA:=κ nza;clear dga nza hn;by_cases h0:ds.length=0
 ·have hds:ds=[]:=List.eq_nil_of_length_eq_zero h0
  subst hds;simp only[List.length_nil]at*;clear h0 hsa;go_enter Tryz.func12,Tryz.ntmps12;go_wp2_with fail;go_ret;exact⟨0,rfl,.inl ⟨rfl,rfl⟩,by omega,rfl⟩
 ·obtain⟨m,hm⟩: ∃m,ds.length=m+1:=⟨ds.length-1,by omega⟩
  obtain⟨b,o,rfl,_,sa⟩:=hsa (by omega);have cA:=sa m (by omega);obtain⟨t,ht⟩: ∃t,t=ds.getD m 0:=⟨_,rfl⟩;obtain⟨ht0,ht1⟩:=DA.out.getD (by omega) m;rw[<-ht]at ht0 ht1 cA;have hne:((m:Int)+1==0)=false:=by simp;omega
  have htne:t≠0:=by
   rcases NA.out with h|h
   ·subst h;simp at hm
   ·rw[hm,Nat.add_sub_cancel,<- ht]at h;exact h
  have HT:=κ ht;have HNE:=κ htne;have hm1:ds.length-1=m:=by omega
  have HM1:=κ hm1;have HM:=κ hm;clear ht sa hsa htne hm1;rw[hm]at hla la ⊢
  clear hm h0;go_enter Tryz.func12,Tryz.ntmps12;go_wp2_with fail;go_loopg [3,4] 17 (fun g nv tv wr=> ∃(j:Nat) (u:Int),j<=16/\g=17-j/\nv= .int .i64 (16*(m:Int)+j)/\tv= .int .i64 u/\0<=u/\u<65536/\u=t/2^j/\(j=0\/0<t/2^(j-1))/\w=wr);case atStart=>exact⟨0,t,by omega,rfl,by simp,rfl,ht0,ht1,by simp,.inl rfl,rfl⟩
  case round=>
   obtain⟨j,u,hj,rfl,rfl,rfl,hu0,hu1,hu,hj2,rfl⟩:=hrel;have HU:=κ hu;have HJ:=κ hj2;clear hu hj2;by_cases hp:0<u
   ·go_wp2_with fail
    have hj16:j<16:=by
     rcases Nat.lt_or_ge j 16 with h|h
     ·exact h
     ·obtain rfl:j=16:=by omega
      have h1:=HU.out;have:t/2^16=0:=by simp;omega
      omega
    go_roundg (17-(j+1));case measure=>omega
    case rel=>
     refine⟨j+1,u/2,by omega,rfl,?_,rfl,by omega,by omega,?_,.inr ?_,rfl⟩
     ·exact congrArg (Value.int .i64) (by omega)
     ·rw[HU.out,Int.pow_succ,Int.ediv_ediv_of_nonneg (Int.le_of_lt (pow_pos_ (by omega) j))]
     ·rw[Nat.add_sub_cancel,<- HU.out];exact hp
   ·obtain rfl:u=0:=by omega
    go_wp2_with fail;go_ret;have hl:=isLen_div ht0 HU.out.symm HJ.out
    have h1:1<=j:=by
     rcases hl with⟨h,_⟩|⟨h,_⟩
     ·exact absurd h HNE.out
     ·exact h
    refine⟨16*m+j,?_,?_,by omega,rfl⟩
    ·exact congrArg Ending.returned (by go_num)
    ·have:=IsLen.digits DA.out (t:=t) (j:=j) (by rw[HM.out];omega) (by rw[HM1.out];exact HT.out) hl h1
     rwa[HM1.out]at this
theorem bits_any(va:Value)(n:Int)(w:World)(ha:SN w va n)(hn:n<BIG):Calls Tryz.prog 5 #[va] w (RetLen n w):=by
 have C:=κ (len_any va n w ha hn);clear ha hn;go_enter Tryz.func5,Tryz.ntmps5;go_wp2_with (go_at_call 12;refine(Hid.out C).mono ?_;rintro e w1 ⟨L,rfl,h1,h2,rfl⟩);go_ret;exact⟨L,rfl,h1,h2,rfl⟩
end Go.Proofs.YthecibbmbnpegaaGreatDoor
end
