/-
  Part 2 of the proof of the law FnExpSum: XNorm, XgShift. Conditions: those of each statement.
-/
import Derived.Test.YthecibbmbnpegaaGreatDoorK01
import Derived.RegionTactic
import Derived.ChangeAlike
import Derived.Laws.CopyOwn
import Derived.Laws.Bits64
set_option linter.unusedSimpArgs false
set_option linter.unusedVariables false
set_option maxRecDepth 100000
set_option maxHeartbeats 2000000
namespace Go.Proofs.YthecibbmbnpegaaGreatDoor
open Go.Big Go.RowKit
theorem ty_big:IntTy Tryz.prog .u64 43 51 8:=⟨Tryz.underlying43,by kernel_rfl⟩
theorem mk_uints(n:Nat)(hn:n<=1099511627776)(w:World):(Instr.makeSlice 22 (.int .i64 (n:Int)) (.int .i64 (n:Int))).run Tryz.prog w=
 .ok (.slice (some ⟨w.heap.size,0,none⟩) n n) (w.alloc (.cells (Array.replicate n (Value.int .u64 0)) 36)):=
 run_mk (P:=Tryz.prog) .u64 22 36 8 ty_uints (by omega) n hn w
theorem mk_big(n:Nat)(hn:n<=1099511627776)(w:World):(Instr.makeSlice 43 (.int .i64 (n:Int)) (.int .i64 (n:Int))).run Tryz.prog w=
 .ok (.slice (some ⟨w.heap.size,0,none⟩) n n) (w.alloc (.cells (Array.replicate n (Value.int .u64 0)) 51)):=
 run_mk (P:=Tryz.prog) .u64 43 51 8 ty_big (by omega) n hn w
def SW(w:World)(v:Value)(n:Int):Prop:= ∃ys,Sl .u64 w v ys/\DG 18446744073709551616 ys/\NZ ys/\val 18446744073709551616 ys=n
theorem SW.fr0{w w1:World}{v:Value}{n:Int}(h:SW w v n)(hf:Fr [] w w1):SW w1 v n:=by
 obtain⟨ys,h1,h2⟩:=h;exact⟨ys,h1.fr0 hf,h2⟩
def RetW(n:Int)(w:World)(e:Ending)(w':World):Prop:= ∃v,e= .returned v/\SW w' v n/\Fr [] w w'
theorem SW.one{w:World}{v:Value}(h:SW w v 1): ∃A cap,v= .slice A 1 cap:=by
 obtain⟨ys,⟨A,cap,rfl,_⟩,h2,h3,h4⟩:=h;have:ys=[1]:=eq_of_val h2 (DG.cons (by omega) (by omega) (DG.nil _)) h3 (.inr (by simp)) (by omega) (by rw[h4];simp[val_cons,val_nil]);subst this;exact⟨A,cap,rfl⟩
def RetSl(xs:List Int)(w:World)(e:Ending)(w':World):Prop:= ∃v,e= .returned v/\Sl .u64 w' v xs/\Fr [] w w'
theorem clone_any(v:Value)(xs:List Int)(w:World)(hx:Sl .u64 w v xs)(hl:xs.length<=1000000):Calls Tryz.prog 30 #[v] w (RetSl xs w):=by
 obtain⟨A,cap,rfl,hlc,hm,hsrc⟩:=hx;have hnil:=fun w=>Lib.run_eql_slice_nil (P:=Tryz.prog) w 22 36 A xs.length cap 0 0 Tryz.underlying22
 rcases A with _|ad
 ·have hxs:xs=[]:=by
   rcases Nat.eq_zero_or_pos xs.length with h0|h0
   ·exact List.eq_nil_of_length_eq_zero h0
   ·obtain⟨b,off,e,_⟩:=hsrc h0;cases e
  subst hxs;clear hsrc hlc hl;simp only[Option.isNone_none,List.length_nil]at hnil;simp only[List.length_nil];go_enter Tryz.func30,Tryz.ntmps30;go_wp2;go_ret;exact⟨_,rfl,Sl.nil _ _,Fr.refl _ _⟩
 ·have own0:Own .u64 36 w (w.alloc (.cells #[] 36)) (.slice (some ⟨w.heap.size,0,none⟩) 0 0) []:=Own.lit0 _ _ _ _ (Nat.le_refl _)
  have fr0:Fr [] w (w.alloc (.cells #[] 36)):=(Fr.refl _ _).alloc _;have sl0:Sl .u64 (w.alloc (.cells #[] 36)) (.slice (some ad) xs.length cap) xs:=Sl.fr0 ⟨_,cap,rfl,hlc,hm,hsrc⟩ fr0;simp only[Option.isNone_some]at hnil;clear hsrc hlc;go_enter Tryz.func30,Tryz.ntmps30;go_wp2_with (at_builtin;refine wp_apps rfl (.tmp 5) (.tmp 6) _ rfl .u64 _ 8 ty_uints (by omega) w [] _ _ _ _ rfl own0 fr0 rfl sl0 (by simp;omega) ?_;intro v1 w1 own1 fr1;clear sl0 own0 fr0);go_ret;exact⟨_,rfl,by simpa using own1.sl,fr1⟩
def CopyRel(T:TypeId)(xs:List Int)(w0:World)(g:Nat)(iv:Value)(wr:World):Prop:=
 ∃i:Nat,i<=xs.length/\g=xs.length-i/\iv= .int .i64 i/\Row .u64 T wr w0.heap.size (xs.take i++List.replicate (xs.length-i) 0)/\Fr [] w0 wr
theorem copyRow{xs:List Int}{i:Nat}(hi:i<xs.length):(xs.take i++List.replicate (xs.length-i) 0).set i (xs.getD i 0)=xs.take (i+1)++List.replicate (xs.length-(i+1)) 0:=by
 rw[List.set_append_right _ _ (by rw[List.length_take];omega),List.length_take,Nat.min_eq_left (by omega),Nat.sub_self,List.take_succ_eq_append_getElem hi,getD_in hi];obtain⟨m,hm⟩: ∃m,xs.length-i=m+1:=⟨xs.length-i-1,by omega⟩;have:xs.length-(i+1)=m:=by omega
 rw[hm,this,List.replicate_succ,List.set_cons_zero,List.append_assoc];rfl
theorem zzIn_any(v:Value)(xs:List Int)(w:World)(hx:Sl .u64 w v xs)(hl:xs.length<=1000000):
 Calls Tryz.prog 28 #[v] w fun e w'=> ∃b,e= .returned (.slice (some ⟨b,0,none⟩) xs.length xs.length)/\Row .u64 51 w' b xs/\w.heap.size<=b/\Fr [] w w':=by
 obtain⟨A,cap,rfl,hlc,hm,hsrc⟩:=hx;unfold maxLen at hm;have hmk:=mk_big xs.length (by omega);go_enter Tryz.func28,Tryz.ntmps28;go_wp2_with fail;clear hmk;go_loopg [11] xs.length (CopyRel 51 xs w);case atStart=>exact⟨0,by omega,rfl,rfl,by simpa using Row.zeros w .u64 51 xs.length,(Fr.refl _ _).alloc _⟩
 case round=>
  obtain⟨i,hi,rfl,rfl,hrow,hf⟩:=hrel;by_cases h1:i<xs.length
  ·obtain⟨b,off,rfl,hb,hs⟩:=hsrc (by omega)
   have hc:=(hs.fr hf (by simp)) i h1;have hz:=hrow.cell (i:=i) (by simp;omega);have hfz:=hrow.frozen i;obtain⟨x,hx⟩: ∃x,x=xs.getD i 0:=⟨_,rfl⟩;rw[<-hx]at hc;have HX:=κ hx;clear hx hs hsrc;go_wp2_with fail;go_roundg (xs.length-(i+1));case measure=>omega
   case rel=>
    refine⟨i+1,by omega,rfl,by go_num,?_,hf.set (.inr (Nat.le_refl _)) _⟩;have:=hrow.set i x;rwa[HX.out,copyRow h1,<- HX.out]at this
  ·obtain rfl:i=xs.length:=by omega
   clear hsrc;go_wp2_with fail;go_ret;exact⟨_,rfl,by simpa using hrow,Nat.le_refl _,hf⟩
theorem zzOut_any(v:Value)(xs:List Int)(w:World)(hx:Sl .u64 w v xs)(hl:xs.length<=4000000):Calls Tryz.prog 26 #[v] w (RetSl xs w):=by
 obtain⟨A,cap,rfl,hlc,hm,hsrc⟩:=hx;unfold maxLen at hm;have hmk:=mk_uints xs.length (by omega);go_enter Tryz.func26,Tryz.ntmps26;go_wp2_with fail;clear hmk;go_loopg [11] xs.length (CopyRel 36 xs w);case atStart=>exact⟨0,by omega,rfl,rfl,by simpa using Row.zeros w .u64 36 xs.length,(Fr.refl _ _).alloc _⟩
 case round=>
  obtain⟨i,hi,rfl,rfl,hrow,hf⟩:=hrel;by_cases h1:i<xs.length
  ·obtain⟨b,off,rfl,hb,hs⟩:=hsrc (by omega)
   have hc:=(hs.fr hf (by simp)) i h1;have hz:=hrow.cell (i:=i) (by simp;omega);have hfz:=hrow.frozen i;obtain⟨x,hx⟩: ∃x,x=xs.getD i 0:=⟨_,rfl⟩;rw[<-hx]at hc;have HX:=κ hx;clear hx hs hsrc;go_wp2_with fail;go_roundg (xs.length-(i+1));case measure=>omega
   case rel=>
    refine⟨i+1,by omega,rfl,by go_num,?_,hf.set (.inr (Nat.le_refl _)) _⟩;have:=hrow.set i x;rwa[HX.out,copyRow h1,<- HX.out]at this
  ·obtain rfl:i=xs.length:=by omega
   clear hsrc;go_wp2_with fail;go_ret;have hr:Row .u64 36 wr w.heap.size xs:=by simpa using hrow
   refine⟨_,rfl,⟨_,xs.length,rfl,Nat.le_refl _,by unfold maxLen;omega,fun hp=>⟨_,0,rfl,hr.lt,fun j hj=>by rw[Nat.zero_add];exact hr.cell hj⟩⟩,hf⟩
theorem bnorm_any(A:Option Addr)(cap:Nat)(ds:List Int)(w:World)(hl:ds.length<=cap)(hm:cap<=maxLen)(hA:0<ds.length-> ∃b off,A=some ⟨b,off,none⟩/\Src .u64 w b off ds):
 Calls Tryz.prog 34 #[.slice A ds.length cap] w (Trimmed A cap ds w):=by
 unfold maxLen at hm;go_enter Tryz.func34,Tryz.ntmps34;go_wp2_with fail;go_loopg [3] (ds.length+1) (fun g iv wr=> ∃i:Nat,i<=ds.length/\g=i+1/\iv= .int .i64 i/\(∀j,i<=j->j<ds.length->ds.getD j 0=0)/\w=wr);case atStart=>exact⟨ds.length,Nat.le_refl _,rfl,rfl,fun j h1 h2=>absurd h2 (by omega),rfl⟩
 case round=>
  obtain⟨i,hi,rfl,rfl,hz,rfl⟩:=hrel;have HZ:=κ hz;clear hz;rcases Nat.eq_zero_or_pos i with rfl|hp
  ·go_wp2_with fail
   go_ret;exact⟨0,⟨by omega,.inl rfl,HZ.out⟩,rfl,rfl⟩
  ·obtain⟨k,rfl⟩: ∃k,i=k+1:=⟨i-1,by omega⟩
   obtain⟨b,off,rfl,hs⟩:=hA (by omega);have hc:=hs k (by omega);obtain⟨x,hx⟩: ∃x,x=ds.getD k 0:=⟨_,rfl⟩;rw[<-hx]at hc;have HX:=κ hx;clear hx hs hA;by_cases h0:x=0
   ·subst h0
    go_wp2_with fail;go_roundg (k+1);case measure=>omega
    case rel=>
     refine⟨k,by omega,rfl,rfl,fun j h1 h2=> ?_,rfl⟩;by_cases e:j=k
     ·subst e;exact HX.out.symm
     ·exact HZ.out j (by omega) h2
   ·go_wp2_with fail
    go_ret;exact⟨k+1,⟨hi,.inr (by rw[Nat.add_sub_cancel,<- HX.out];exact h0),HZ.out⟩,rfl,rfl⟩
end Go.Proofs.YthecibbmbnpegaaGreatDoor
section
namespace Go.Big
open Go.RowKit
def spl(L:List Int)(o:Nat)(cs:List Int):List Int:=L.take o++(cs++L.drop (o+cs.length))
theorem spl_nil(L:List Int)(o:Nat):spl L o []=L:=by simp[spl]
theorem spl_len{L:List Int}{o:Nat}{cs:List Int}(h:o+cs.length<=L.length):(spl L o cs).length=L.length:=by simp[spl];omega
theorem spl_get{L:List Int}{o:Nat}{cs:List Int}(h:o+cs.length<=L.length)(i:Nat):
 (spl L o cs).getD i 0=if i<o then L.getD i 0 else if i<o+cs.length then cs.getD (i-o) 0 else L.getD i 0:=by
 have ht:(L.take o).length=o:=by rw[List.length_take];omega
 simp only[List.getD_eq_getElem?_getD];unfold spl;by_cases h1:i<o
 ·rw[if_pos h1,List.getElem?_append_left (by omega),List.getElem?_take,if_pos h1]
 ·rw[if_neg h1,List.getElem?_append_right (by omega),ht]
  by_cases h2:i<o+cs.length
  ·rw[if_pos h2,List.getElem?_append_left (by omega)]
  ·rw[if_neg h2,List.getElem?_append_right (by omega),List.getElem?_drop]
   congr 2;omega
theorem spl_set_end{L:List Int}{o:Nat}{cs:List Int}(h:o+cs.length<L.length)(z:Int):(spl L o cs).set (o+cs.length) z=spl L o (cs++[z]):=by
 have ht:(L.take o).length=o:=by rw[List.length_take];omega
 unfold spl;rw[List.set_append_right _ _ (by omega),ht,Nat.add_sub_cancel_left,List.set_append_right _ _ (Nat.le_refl _),Nat.sub_self,List.drop_eq_getElem_cons h,List.set_cons_zero];simp[Nat.add_assoc]
theorem spl_set_top{L:List Int}{o:Nat}{cs:List Int}(h:o<L.length)(z:Int):(spl L (o+1) cs).set o z=spl L o (z::cs):=by
 unfold spl;rw[List.set_append_left _ _ (by rw[List.length_take];omega),List.take_succ_eq_append_getElem h,List.set_append_right _ _ (by rw[List.length_take];omega),List.length_take,Nat.min_eq_left (by omega),Nat.sub_self];simp[Nat.add_assoc,Nat.add_comm 1]
theorem spl_dg{B:Int}{L:List Int}{o:Nat}{cs:List Int}(h:DG B L)(k:DG B cs):DG B (spl L o cs):=(h.take _).append (k.append (h.drop _))
theorem spl_all{L cs:List Int}(h:cs.length=L.length):spl L 0 cs=cs:=by
 unfold spl;rw[List.drop_eq_nil_of_le (by omega)];simp
theorem Src.lt{k:IntKind}{w:World}{b off:Nat}{xs:List Int}(h:Src k w b off xs)(hp:0<xs.length):b<w.heap.size:=by
 have h0:=h 0 hp;rcases Nat.lt_or_ge b w.heap.size with hlt|hge
 ·exact hlt
 ·unfold World.cell? at h0
  rw[Array.getElem?_eq_none (by simpa using hge)]at h0;cases h0
theorem Src.sl{k:IntKind}{w:World}{b off n c:Nat}{xs:List Int}(h:Src k w b off xs)(hn:xs.length=n)(hc:n<=c)(hm:c<=maxLen):Sl k w (.slice (some ⟨b,off,none⟩) n c) xs:=
 ⟨_,c,by rw[hn],by omega,hm,fun hp=>⟨b,off,rfl,h.lt hp,h⟩⟩
theorem Src.spl{k:IntKind}{T:TypeId}{w w':World}{b:Nat}{L:List Int}{o:Nat}{cs:List Int}{bx ox:Nat}{xs:List Int}(hs:Src k w bx ox xs)(hr:Row k T w b L)
 (hr':Row k T w' b (Big.spl L o cs))(hf:Fr [b] w w')(hfit:o+cs.length<=L.length){j:Nat}(hj:j<xs.length)(hno:bx≠b\/ox+j<o\/o+cs.length<=ox+j):
 w'.cell? ⟨bx,ox+j,none⟩=some (.int k (xs.getD j 0)):=by
 by_cases e:bx=b
 ·subst e
  have h0:=hs j hj;by_cases hl:ox+j<L.length
  ·have h1:=hr.cell hl
   rw[h1]at h0;injection h0 with h0;injection h0 with _ h0;rw[hr'.cell (by rw[spl_len hfit];exact hl),spl_get hfit,<- h0];rcases hno with h|h|h
   ·exact absurd rfl h
   ·rw[if_pos h]
   ·rw[if_neg (by omega),if_neg (by omega)]
  ·exfalso
   unfold Row at hr;unfold World.cell? at h0;rw[hr]at h0;simp[List.getElem?_eq_none (show L.length<=ox+j by omega)]at h0
 ·exact hf.cell_some (hs j hj) (by simpa using e)
theorem or_shift(a b:Int)(s:Nat)(hs0:0<s)(hs:s<64)(ha0:0<=a)(hb0:0<=b)(hb:b<18446744073709551616):
 bits .or .u64 (IntKind.u64.wrap (a*2^s)) (b/2^(64-s))=(a*2^s)%18446744073709551616+b/2^(64-s):=by
 rw[IntKind.wrap_u64];obtain⟨m,rfl⟩:=Int.eq_ofNat_of_zero_le ha0;obtain⟨n,rfl⟩:=Int.eq_ofNat_of_zero_le hb0
 have e1:((m:Int)*2^s%18446744073709551616)=((2^s*(m%2^(64-s)):Nat):Int):=by
  have:(18446744073709551616:Nat)=2^s*2^(64-s):=by rw[<-Nat.pow_add,show s+(64-s)=64 by omega]
  have h2:m*2^s%18446744073709551616=2^s*(m%2^(64-s)):=by rw[this,Nat.mul_comm m,Nat.mul_mod_mul_left]
  rw[<-h2];simp
 have e2:((n:Int)/2^(64-s))=((n/2^(64-s):Nat):Int):=by simp
 have hlt:n/2^(64-s)<2^s:=by
  rw[Nat.div_lt_iff_lt_mul (Nat.two_pow_pos _),<- Nat.pow_add,show s+(64-s)=64 by omega];omega
 have h3:2^s*(m%2^(64-s))<18446744073709551616:=by
  have:=Nat.mod_lt m (Nat.two_pow_pos (64-s));have h4:2^s*(m%2^(64-s))<2^s*2^(64-s):=Nat.mul_lt_mul_of_pos_left this (Nat.two_pow_pos _);rw[<-Nat.pow_add,show s+(64-s)=64 by omega]at h4;exact h4
 have h5:n/2^(64-s)<18446744073709551616:=Nat.lt_of_le_of_lt (Nat.div_le_self _ _) (by omega);rw[e1,e2,u64_or_nat _ _ h3 h5,<- Nat.two_pow_add_eq_or_of_lt hlt];simp
theorem wp_copy{P:Program}{ops:Array Oper}{rest:List Oper}{o:Oper}{a:Act}{Q:Exit->Act->World->Prop}{w:World}(hgd:o.guard=none)(d s:Operand)(dT sT:TypeId)
 (ho:o.op= .call {callee:= .builtin .copy,args:= #[d,s],argTypes:= #[dT,sT]})(k:IntKind)(T:TypeId)(hu:P.underlying dT=some (.slice T))(hsz:(P.info? T).map (·.size)=some 1)
 (g off dLen dCap:Nat)(hd:a.eval d= .slice (some ⟨g,off,none⟩) dLen dCap)(v:Value)(xs:List Int)(hs:a.eval s=v)(hsl:Sl k w v xs)(L:List Int)(hrow:Row k T w g L)(hfit:off+dLen<=L.length)
 (h: ∀w',Row k T w' g (spl L off (xs.take dLen))->Fr [g] w w'->wpList P ops Q rest (a.put o.dst (goInt (xs.take dLen).length)) w'):wpList P ops Q (o::rest) a w:=by
 obtain⟨A,cap,rfl,h1,h2,h3⟩:=hsl;by_cases h0:(xs.take dLen).length=0
 ·refine wpList_copy_nothing hgd d s dT sT ho T hu hsz _ A dLen dCap xs.length cap hd hs (by rw[List.length_take]at h0;show min xs.length dLen=0;omega) ?_
  have e:=h w (by rw[List.eq_nil_of_length_eq_zero h0,spl_nil];exact hrow) (Fr.refl _ _);rw[h0]at e;exact e
 ·have hp:0<xs.length:=by rw[List.length_take]at h0;omega
  obtain⟨b,o2,rfl,hb,hsrc⟩:=h3 hp;have hl:((xs.take dLen).map (Value.int k)).length=Nat.min xs.length dLen:=by rw[List.length_map,List.length_take];show min dLen xs.length=min xs.length dLen;omega
  refine wpList_copy_own hgd d s dT sT ho T hu hsz g off dLen dCap ⟨b,o2,none⟩ xs.length cap hd hs _ T hrow ((xs.take dLen).map (Value.int k)) hl ?_ ?_ (ints_oneCell k _) ?_
  ·intro j v hj
   rw[List.getElem?_map]at hj
   have hlt:j<(xs.take dLen).length:=by
    rcases Nat.lt_or_ge j (xs.take dLen).length with hl|hl
    ·exact hl
    ·rw[List.getElem?_eq_none hl]at hj;cases hj
   have hc:=(hsrc.take dLen) j hlt;rw[List.getElem?_eq_getElem hlt]at hj;simp only[Option.map_some,Option.some.injEq]at hj;subst hj;rw[getD_in hlt]at hc;rw[<-hc];unfold Addr.add;split
   ·rename_i hj0;subst hj0;rfl
   ·rfl
  ·rw[List.length_map,List.length_take];simp;omega
  ·rw[List.length_map]
   refine h _ ?_ ?_
   ·unfold Row spl
    rw[setRow_heap w g _ _ T _ hrow];simp[List.map_take,List.map_drop]
   ·refine⟨rfl,rfl,rfl,by simp[World.setRow],fun b hb hn=>setRow_other w g b _ (by simpa using hn)⟩
end Go.Big
end
section
namespace Go.Proofs.YthecibbmbnpegaaGreatDoor
open Go.Big Go.RowKit
theorem size_word:(Tryz.prog.info? 51).map (·.size)=some 1:=by kernel_rfl
theorem shl_split(x:Int)(s:Nat)(hs:s<64):x*2^s/18446744073709551616=x/2^(64-s):=by
 have e:(18446744073709551616:Int)=2^(64-s)*2^s:=by rw[<-Int.pow_add,show 64-s+s=64 by omega];rfl
 rw[e];exact Int.mul_ediv_mul_of_pos_left _ _ (pow_pos_ (by omega) s)
def LshPost(T:TypeId)(w:World)(bz oz n s:Nat)(L xs:List Int)(e:Ending)(w':World):Prop:=
 ∃(zs:List Int) (c:Int),e= .returned (.int .u64 c)/\Row .u64 T w' bz (spl L oz zs)/\Fr [bz] w w'/\zs.length=n/\DG 18446744073709551616 zs/\0<=c/\c<2^s/\
  val 18446744073709551616 zs+18446744073709551616^n*c=2^s*val 18446744073709551616 xs
def LshRel(T:TypeId)(w:World)(bz oz m s:Nat)(L xs:List Int)(c0:Int)(g:Nat)(iv:Value)(wr:World):Prop:=
 ∃(i:Nat) (suf:List Int),i<=m/\g=i+1/\iv= .int .i64 i/\Row .u64 T wr bz (spl L (oz+i+1) suf)/\Fr [bz] w wr/\suf.length=m-i/\DG 18446744073709551616 suf/\
  2^s*val 18446744073709551616 (xs.drop i)=(xs.getD i 0*2^s)%18446744073709551616+18446744073709551616*(val 18446744073709551616 suf+18446744073709551616^(m-i)*c0)
theorem lsh_step{W P S V z a b b2 c q:Int}(h:P*V=a+W*(S+q*c))(hz:z=a+b2)(hb:b*P=(b*P)%W+W*b2):
 P*(b+W*V)=(b*P)%W+W*(z+W*S+W*q*c):=by
 subst hz;have e:P*(b+W*V)=b*P+W*(P*V):=by grind
 rw[e,h];grind
theorem lshVU_any(bz oz cz bx ox cx n s:Nat)(L xs:List Int)(w:World)(hz:Row .u64 51 w bz L)(hfit:oz+n<=L.length)(hn:xs.length=n)(hx:Src .u64 w bx ox xs)
 (hd:DG 18446744073709551616 xs)(hs:s<64)(hal:bx≠bz\/ox<=oz\/oz+n<=ox)(hcz:n<=cz)(hcx:n<=cx)(hmx:cx<=maxLen)(hn9:n<=1000000000):
 Calls Tryz.prog 112 #[.slice (some ⟨bz,oz,none⟩) n cz,.slice (some ⟨bx,ox,none⟩) n cx,.int .u64 (s:Int)] w (LshPost 51 w bz oz n s L xs):=by
 have HD:=κ hd;have HX:=κ hx;have HZ:=κ hz;have HN:=κ hn;have HAL:=κ hal;clear hd;by_cases hs0:s=0
 ·subst hs0
  have hsl:=hx.sl hn hcx hmx;clear hx hz hn hal;go_enter Tryz.func112,Tryz.ntmps112;go_wp2_with (refine wp_copy rfl (.tmp 17) (.tmp 18) _ _ rfl .u64 51 Tryz.underlying42 size_word bz oz n cz rfl (.slice (some ⟨bx,ox,none⟩) n cx) xs rfl hsl L HZ.out hfit ?_;intro w1 row1 f1);go_ret;refine⟨xs,0,rfl,?_,f1,HN.out,HD.out,by omega,by simp,by simp⟩;rwa[List.take_of_length_le (by rw[HN.out];omega)]at row1
 ·have h63:bits .and .u64 (s:Int) 63=(s:Int):=by
   rw[show(63:Int)=((2^6-1:Nat):Int)from rfl,u64_and_nat _ _ (by omega) (by omega),Nat.and_two_pow_sub_one_eq_mod,Nat.mod_eq_of_lt (by omega)]
  have h63':bits .and .u64 (64-(s:Int)) 63=64-(s:Int):=by
   have e:(64-(s:Int))=((64-s:Nat):Int):=by omega
   rw[e,show(63:Int)=((2^6-1:Nat):Int)from rfl,u64_and_nat _ _ (by omega) (by omega),Nat.and_two_pow_sub_one_eq_mod,Nat.mod_eq_of_lt (by omega)]
  have hse:((s:Int)==0)=false:=by simp;omega
  have hm1:min s 64=s:=by omega
  have hm2:min (64-s) 64=64-s:=by omega
  rcases Nat.eq_zero_or_pos n with h0|h0
  ·subst h0
   clear hx hz hn hal;go_enter Tryz.func112,Tryz.ntmps112;go_wp2_with fail;go_ret;refine⟨[],0,rfl,by rw[spl_nil];exact HZ.out,Fr.refl _ _,rfl,DG.nil _,by omega,pow_pos_ (by omega) s,?_⟩;rw[List.eq_nil_of_length_eq_zero HN.out];simp[val_nil]
  ·obtain⟨m,hm⟩: ∃m,n=m+1:=⟨n-1,by omega⟩
   subst hm;have cm:=hx m (by omega);obtain⟨xm,hxm⟩: ∃xm,xm=xs.getD m 0:=⟨_,rfl⟩;rw[<-hxm]at cm;have hxd:=HD.out.getD (by omega) m;rw[<-hxm]at hxd;obtain⟨hx0,hx1⟩:=hxd;have HXM:=κ hxm;have hnz:((m:Int)+1==0)=false:=by simp;omega
   clear hx hz hn hal hxm;go_enter Tryz.func112,Tryz.ntmps112;go_wp2_with fail;obtain⟨c0,hc0⟩: ∃c0,c0=xm/2^(64-s):=⟨_,rfl⟩;rw[<-hc0];have HC0:=κ hc0;clear hc0 cm;go_loopg [8] (m+1) (LshRel 51 w bz oz m s L xs c0)
   case atStart=>
    refine⟨m,[],Nat.le_refl _,rfl,rfl,by rw[spl_nil];exact HZ.out,Fr.refl _ _,by simp,DG.nil _,?_⟩
    have e:xs.drop m=[xm]:=by
     rw[List.drop_eq_getElem_cons (by rw[HN.out];omega),List.drop_eq_nil_of_le (by rw[HN.out];omega),HXM.out,getD_in (by rw[HN.out];omega)]
    have e2:=Int.emod_add_mul_ediv (xm*2^s) 18446744073709551616;rw[shl_split xm s hs,<- HC0.out]at e2;rw[e,<- HXM.out];simp only[val_cons,val_nil,Nat.sub_self,Int.pow_zero];grind
   case round=>
    obtain⟨i,suf,hi,rfl,rfl,hrow,hf,hl,hdg,hv⟩:=hrel;have HV:=κ hv;have HL:=κ hl;have hfz:=hrow.frozen (oz+i);have hlen:(spl L (oz+i+1) suf).length=L.length:=spl_len (by omega);have cz:=hrow.cell (i:=oz+i) (by omega);obtain⟨old,hold⟩: ∃old,old=(spl L (oz+i+1) suf).getD (oz+i) 0:=⟨_,rfl⟩;rw[<-hold]at cz;have cx1:=HX.out.spl HZ.out hrow hf (by omega) (j:=i) (by rw[HN.out];omega) (by rcases HAL.out with h|h|h;exact .inl h;exact .inr (.inl (by omega));exact .inr (.inr (by omega)));obtain⟨x1,hx1⟩: ∃x1,x1=xs.getD i 0:=⟨_,rfl⟩;rw[<-hx1]at cx1;have hxd1:=HD.out.getD (by omega) i;rw[<-hx1]at hxd1;obtain⟨hx10,hx11⟩:=hxd1;have HX1:=κ hx1;clear hold hlen hv hl hx1;rcases Nat.eq_zero_or_pos i with h00|h00
    ·subst h00
     simp only[Nat.add_zero]at cx1 cz hfz;go_wp2_with fail;go_ret;have e2:=Int.emod_add_mul_ediv (x1*2^s) 18446744073709551616;refine⟨IntKind.u64.wrap (x1*2^s)::suf,c0,rfl,?_,hf.set (.inl (by simp)) _,by rw[List.length_cons,HL.out];omega,?_,?_,?_,?_⟩
     ·have:=hrow.set oz (IntKind.u64.wrap (x1*2^s))
      rwa[Nat.add_zero,spl_set_top (by omega)]at this
     ·rw[IntKind.wrap_u64];exact DG.cons (Int.emod_nonneg _ (by omega)) (Int.emod_lt_of_pos _ (by omega)) hdg
     ·rw[HC0.out];exact Int.ediv_nonneg hx0 (Int.le_of_lt (pow_pos_ (by omega) _))
     ·rw[HC0.out]
      have e:(18446744073709551616:Int)=2^s*2^(64-s):=by rw[<-Int.pow_add,show s+(64-s)=64 by omega];rfl
      rw[e]at hx1;exact Int.ediv_lt_of_lt_mul (pow_pos_ (by omega) _) hx1
     ·have h:=HV.out
      rw[List.drop_zero,<- HX1.out,Nat.sub_zero]at h;rw[h,val_cons,IntKind.wrap_u64,Int.pow_succ];grind
    ·obtain⟨j,rfl⟩: ∃j,i=j+1:=⟨i-1,by omega⟩
     have cx2:=HX.out.spl HZ.out hrow hf (by have:=HL.out;omega) (j:=j) (by rw[HN.out];omega) (by rcases HAL.out with h|h|h;exact .inl h;exact .inr (.inl (by omega));exact .inr (.inr (by have:=HL.out;omega)));obtain⟨x2,hx2⟩: ∃x2,x2=xs.getD j 0:=⟨_,rfl⟩;rw[<-hx2]at cx2;have hxd2:=HD.out.getD (by omega) j;rw[<-hx2]at hxd2;obtain⟨hx20,hx21⟩:=hxd2;have HX2:=κ hx2;have hor:=or_shift x1 x2 s (by omega) hs hx10 hx20 hx21;have HOR:=κ hor;have hw1:IntKind.i64.wrap ((j:Int)+1)=(j:Int)+1:=IntWalk.i64_in _ (by omega);have hw2:IntKind.i64.wrap (j:Int)=(j:Int):=IntWalk.i64_in _ (by omega);have hj1:(j:Int)+1<(m:Int)+1:=by omega
     have hj2:(j:Int)<(m:Int)+1:=by omega
     have hj3:0<=(j:Int)+1:=by omega
     have htn:((j:Int)+1).toNat=j+1:=by omega
     clear hx2 hor;go_wp2_with fail;go_region;go_wp2_with fail;go_roundg (j+1);case measure=>omega
     case rel=>
      obtain⟨z,hz⟩: ∃z,z=bits BinOp.or IntKind.u64 (IntKind.u64.wrap (x1*2^s)) (x2/2^(64-s)):=⟨_,rfl⟩;have hz2:z=x1*2^s%18446744073709551616+x2/2^(64-s):=by rw[hz];exact HOR.out
      have hzb:0<=z/\z<18446744073709551616:=by
       rw[hz];have h1:=bits_lo_u64 .or (IntKind.u64.wrap (x1*2^s)) (x2/2^(64-s));have h2:=bits_hi_u64 .or (IntKind.u64.wrap (x1*2^s)) (x2/2^(64-s));omega
      rw[<-hz];refine⟨j,z::suf,by omega,rfl,by go_num,?_,(hf.set (.inl (by simp)) _).drewN 1,by rw[List.length_cons,HL.out];omega,DG.cons hzb.1 hzb.2 hdg,?_⟩
      ·have:=hrow.set (oz+(j+1)) z
       rw[spl_set_top (by omega)]at this;exact this.drewN 1
      ·have h:=HV.out
       have hj:j<xs.length:=by rw[HN.out];omega
       rw[<-HX1.out]at h;rw[List.drop_eq_getElem_cons hj,<- getD_in hj,<- HX2.out,val_cons,val_cons]
       have hb:x2*2^s=(x2*2^s)%18446744073709551616+18446744073709551616*(x2/2^(64-s)):=by
        rw[<-shl_split x2 s hs];exact(Int.emod_add_mul_ediv _ _).symm
       rw[lsh_step h hz2 hb,show m-j=m-(j+1)+1 by omega,Int.pow_succ];grind
theorem or_shift_r(a b:Int)(s:Nat)(hs0:0<s)(hs:s<64)(ha0:0<=a)(hb0:0<=b)(hb:b<18446744073709551616):
 bits .or .u64 (b/2^s) (IntKind.u64.wrap (a*2^(64-s)))=b/2^s+(a*2^(64-s))%18446744073709551616:=by
 have h:=or_shift a b (64-s) (by omega) (by omega) ha0 hb0 hb;rw[show 64-(64-s)=s by omega]at h
 have e:bits .or .u64 (b/2^s) (IntKind.u64.wrap (a*2^(64-s)))=bits .or .u64 (IntKind.u64.wrap (a*2^(64-s))) (b/2^s):=by
  show IntKind.u64.wrap ((BitVec.ofInt 64 _ ||| BitVec.ofInt 64 _).toNat:Int)=IntKind.u64.wrap ((BitVec.ofInt 64 _ ||| BitVec.ofInt 64 _).toNat:Int);rw[BitVec.or_comm]
 rw[e,h];omega
def RshPost(T:TypeId)(w:World)(bz oz n s:Nat)(L xs:List Int)(e:Ending)(w':World):Prop:=
 ∃(zs:List Int) (c:Int),e= .returned (.int .u64 c)/\Row .u64 T w' bz (spl L oz zs)/\Fr [bz] w w'/\zs.length=n/\DG 18446744073709551616 zs/\0<=c/\c<18446744073709551616/\
  val 18446744073709551616 zs*18446744073709551616+c=val 18446744073709551616 xs*2^(64-s)
def RshRel(T:TypeId)(w:World)(bz oz m s:Nat)(L xs:List Int)(c0:Int)(g:Nat)(iv:Value)(wr:World):Prop:=
 ∃(i:Nat) (pre:List Int),i<=m/\g=m+1-i/\iv= .int .i64 (i+1:Nat)/\Row .u64 T wr bz (spl L oz pre)/\Fr [bz] w wr/\pre.length=i/\DG 18446744073709551616 pre/\
  val 18446744073709551616 (xs.take (i+1))*2^(64-s)=c0+18446744073709551616*(val 18446744073709551616 pre+18446744073709551616^i*(xs.getD i 0/2^s))
theorem shr_split(x:Int)(s:Nat)(hs:s<64):x*2^(64-s)=(x*2^(64-s))%18446744073709551616+18446744073709551616*(x/2^s):=by
 by_cases h:s=0
 ·subst h
  simp only[Nat.sub_zero,Int.pow_zero,Int.ediv_one];rw[show(2:Int)^64=18446744073709551616 by rfl,Int.mul_emod_left];omega
 ·have e:=shl_split x (64-s) (by omega)
  rw[show 64-(64-s)=s by omega]at e;rw[<-e];exact(Int.emod_add_mul_ediv _ _).symm
theorem rshVU_any(bz oz cz bx ox cx n s:Nat)(L xs:List Int)(w:World)(hz:Row .u64 51 w bz L)(hfit:oz+n<=L.length)(hn:xs.length=n)(hx:Src .u64 w bx ox xs)
 (hd:DG 18446744073709551616 xs)(hs:s<64)(hal:bx≠bz\/oz<=ox\/ox+n<=oz)(hcz:n<=cz)(hcx:n<=cx)(hmx:cx<=maxLen)(hn9:n<=1000000000):
 Calls Tryz.prog 115 #[.slice (some ⟨bz,oz,none⟩) n cz,.slice (some ⟨bx,ox,none⟩) n cx,.int .u64 (s:Int)] w (RshPost 51 w bz oz n s L xs):=by
 have HD:=κ hd;have HX:=κ hx;have HZ:=κ hz;have HN:=κ hn;have HAL:=κ hal;clear hd;by_cases hs0:s=0
 ·subst hs0
  have hsl:=hx.sl hn hcx hmx;clear hx hz hn hal;go_enter Tryz.func115,Tryz.ntmps115;go_wp2_with (refine wp_copy rfl (.tmp 17) (.tmp 18) _ _ rfl .u64 51 Tryz.underlying42 size_word bz oz n cz rfl (.slice (some ⟨bx,ox,none⟩) n cx) xs rfl hsl L HZ.out hfit ?_;intro w1 row1 f1);go_ret;refine⟨xs,0,rfl,?_,f1,HN.out,HD.out,by omega,by omega,by simp⟩;rwa[List.take_of_length_le (by rw[HN.out];omega)]at row1
 ·have h63:bits .and .u64 (s:Int) 63=(s:Int):=by
   rw[show(63:Int)=((2^6-1:Nat):Int)from rfl,u64_and_nat _ _ (by omega) (by omega),Nat.and_two_pow_sub_one_eq_mod,Nat.mod_eq_of_lt (by omega)]
  have h63':bits .and .u64 (64-(s:Int)) 63=64-(s:Int):=by
   have e:(64-(s:Int))=((64-s:Nat):Int):=by omega
   rw[e,show(63:Int)=((2^6-1:Nat):Int)from rfl,u64_and_nat _ _ (by omega) (by omega),Nat.and_two_pow_sub_one_eq_mod,Nat.mod_eq_of_lt (by omega)]
  have hse:((s:Int)==0)=false:=by simp;omega
  have hm1:min s 64=s:=by omega
  have hm2:min (64-s) 64=64-s:=by omega
  rcases Nat.eq_zero_or_pos n with h0|h0
  ·subst h0
   clear hx hz hn hal;go_enter Tryz.func115,Tryz.ntmps115;go_wp2_with fail;go_ret;refine⟨[],0,rfl,by rw[spl_nil];exact HZ.out,Fr.refl _ _,rfl,DG.nil _,by omega,by omega,?_⟩;rw[List.eq_nil_of_length_eq_zero HN.out];simp[val_nil]
  ·obtain⟨m,hm⟩: ∃m,n=m+1:=⟨n-1,by omega⟩
   subst hm;have cm:=hx 0 (by omega);simp only[Nat.add_zero]at cm;obtain⟨xm,hxm⟩: ∃xm,xm=xs.getD 0 0:=⟨_,rfl⟩;rw[<-hxm]at cm;have hxd:=HD.out.getD (by omega) 0;rw[<-hxm]at hxd;obtain⟨hx0,hx1⟩:=hxd;have HXM:=κ hxm;have hnz:((m:Int)+1==0)=false:=by simp;omega
   clear hx hz hn hal hxm;go_enter Tryz.func115,Tryz.ntmps115;go_wp2_with fail;obtain⟨c0,hc0⟩: ∃c0,c0=IntKind.u64.wrap (xm*2^(64-s)):=⟨_,rfl⟩;rw[<-hc0];have HC0:=κ hc0;clear hc0 cm;go_loopg [8] (m+1) (RshRel 51 w bz oz m s L xs c0)
   case atStart=>
    refine⟨0,[],Nat.zero_le _,rfl,rfl,by rw[spl_nil];exact HZ.out,Fr.refl _ _,rfl,DG.nil _,?_⟩;have e2:=shr_split xm s hs;rw[val_take_succ',List.take_zero,val_nil,<- HXM.out,HC0.out,IntKind.wrap_u64];simp only[val_nil,Int.pow_zero];grind
   case round=>
    obtain⟨i,pre,hi,rfl,rfl,hrow,hf,hl,hdg,hv⟩:=hrel;have HV:=κ hv;have HL:=κ hl;have hfz:=hrow.frozen (oz+i);have hlen:(spl L oz pre).length=L.length:=spl_len (by omega);have cz:=hrow.cell (i:=oz+i) (by omega);obtain⟨old,hold⟩: ∃old,old=(spl L oz pre).getD (oz+i) 0:=⟨_,rfl⟩;rw[<-hold]at cz;have cx1:=HX.out.spl HZ.out hrow hf (by omega) (j:=i) (by rw[HN.out];omega) (by rcases HAL.out with h|h|h;exact .inl h;exact .inr (.inr (by omega));exact .inr (.inl (by omega)));obtain⟨x1,hx1⟩: ∃x1,x1=xs.getD i 0:=⟨_,rfl⟩;rw[<-hx1]at cx1;have hxd1:=HD.out.getD (by omega) i;rw[<-hx1]at hxd1;obtain⟨hx10,hx11⟩:=hxd1;have HX1:=κ hx1;clear hold hlen hv hl hx1;rcases(by omega:i=m\/i<m)with h00|h00
    ·subst h00
     go_wp2_with fail;go_ret;refine⟨pre++[x1/2^s],c0,rfl,?_,hf.set (.inl (by simp)) _,by rw[List.length_append,HL.out];simp,?_,?_,?_,?_⟩
     ·have:=hrow.set (oz+i) (x1/2^s)
      have e:oz+i=oz+pre.length:=by rw[HL.out]
      rwa[e,spl_set_end (by rw[HL.out];omega),<- e]at this
     ·exact hdg.append (DG.cons (Int.ediv_nonneg hx10 (Int.le_of_lt (pow_pos_ (by omega) _))) (Int.lt_of_le_of_lt (Int.ediv_le_self _ hx10) hx11) (DG.nil _))
     ·rw[HC0.out,IntKind.wrap_u64];exact Int.emod_nonneg _ (by omega)
     ·rw[HC0.out,IntKind.wrap_u64];exact Int.emod_lt_of_pos _ (by omega)
     ·have h:=HV.out
      rw[List.take_of_length_le (by rw[HN.out];omega),<- HX1.out]at h;rw[h,val_snoc,HL.out];grind
    ·have cx2:=HX.out.spl HZ.out hrow hf (by have:=HL.out;omega) (j:=i+1) (by rw[HN.out];omega) (by rcases HAL.out with h|h|h;exact .inl h;exact .inr (.inr (by have:=HL.out;omega));exact .inr (.inl (by omega)))
     obtain⟨x2,hx2⟩: ∃x2,x2=xs.getD (i+1) 0:=⟨_,rfl⟩;rw[<-hx2]at cx2;have hxd2:=HD.out.getD (by omega) (i+1);rw[<-hx2]at hxd2;obtain⟨hx20,hx21⟩:=hxd2;have HX2:=κ hx2;have hor:=or_shift_r x2 x1 s (by omega) hs hx20 hx10 hx11;have HOR:=κ hor;have hw1:IntKind.i64.wrap ((i:Int)+1)=(i:Int)+1:=IntWalk.i64_in _ (by omega);have hw2:IntKind.i64.wrap (i:Int)=(i:Int):=IntWalk.i64_in _ (by omega);have hj1:(i:Int)+1<(m:Int)+1:=by omega
     have hj2:(i:Int)<(m:Int)+1:=by omega
     have hj3:0<=(i:Int)+1:=by omega
     have htn:((i:Int)+1).toNat=i+1:=by omega
     clear hx2 hor;go_wp2_with fail;go_region;go_wp2_with fail;go_roundg (m+1-(i+1));case measure=>omega
     case rel=>
      obtain⟨z,hz⟩: ∃z,z=bits BinOp.or IntKind.u64 (x1/2^s) (IntKind.u64.wrap (x2*2^(64-s))):=⟨_,rfl⟩;have hz2:z=x1/2^s+x2*2^(64-s)%18446744073709551616:=by rw[hz];exact HOR.out
      have hzb:0<=z/\z<18446744073709551616:=by
       rw[hz];have h1:=bits_lo_u64 .or (x1/2^s) (IntKind.u64.wrap (x2*2^(64-s)));have h2:=bits_hi_u64 .or (x1/2^s) (IntKind.u64.wrap (x2*2^(64-s)));omega
      rw[<-hz];refine⟨i+1,pre++[z],by omega,rfl,by go_num,?_,(hf.set (.inl (by simp)) _).drewN 1,by rw[List.length_append,HL.out];simp,hdg.append (DG.cons hzb.1 hzb.2 (DG.nil _)),?_⟩
      ·have:=hrow.set (oz+i) z
       have e:oz+i=oz+pre.length:=by rw[HL.out]
       rw[e,spl_set_end (by rw[HL.out];omega),<- e]at this;exact this.drewN 1
      ·have h:=HV.out
       rw[<-HX1.out]at h;rw[val_take_succ',Int.add_mul,h,val_snoc,HL.out,<- HX2.out,hz2,Int.pow_succ];have hb:=shr_split x2 s hs;grind
end Go.Proofs.YthecibbmbnpegaaGreatDoor
end
section
namespace Go.Big
theorem guess_rest{W d v k x1 x0 q f:Int}(hd0:0<d)(hdW:d<=W)(hk0:0<=k)(hkd:k<=d)(hv:v*d=W*W-k)(h1:0<=x1)(h1d:x1<d)(h0:0<=x0)(h0W:x0<W)
 (hf0:0<=f)(hfW:f<W)(hq:v*x1+x0=q*W+f):0<=x1*W+x0-d*q/\x1*W+x0-d*q<W+d:=by
 have e:W*(x1*W+x0-d*q)=k*x1+(W-d)*x0+d*f:=by grind
 have a1:0<=k*x1:=Int.mul_nonneg hk0 h1;have a2:0<=(W-d)*x0:=Int.mul_nonneg (by omega) h0;have a3:0<=d*f:=Int.mul_nonneg (by omega) hf0;have b1:k*x1<=d*W:=Int.mul_le_mul hkd (by omega) h1 (by omega);have b2:(W-d)*x0<=(W-d)*(W-1):=Int.mul_le_mul_of_nonneg_left (by omega) (by omega);have b3:d*f<=d*(W-1):=Int.mul_le_mul_of_nonneg_left (by omega) (by omega);have hW:0<W:=by omega
 constructor
 ·have:0<=W*(x1*W+x0-d*q):=by omega
  exact Int.nonneg_of_mul_nonneg_right this hW
 ·have:W*(x1*W+x0-d*q)<W*(W+d):=by grind
  exact Int.lt_of_mul_lt_mul_left this (by omega)
theorem mul64_up(x y:Int)(hx0:0<=x)(hx1:x<18446744073709551616)(hy0:0<=y)(hy1:y<18446744073709551616):
 (((x/4294967296*(y/4294967296))%18446744073709551616+((x/4294967296*(y%4294967296))%18446744073709551616+(x%4294967296*(y%4294967296))%18446744073709551616/4294967296)%18446744073709551616/4294967296)%18446744073709551616+
   (((x/4294967296*(y%4294967296))%18446744073709551616+(x%4294967296*(y%4294967296))%18446744073709551616/4294967296)%18446744073709551616%4294967296+(x%4294967296*(y/4294967296))%18446744073709551616)%18446744073709551616/4294967296)%18446744073709551616=x*y/18446744073709551616:=by
 obtain⟨a,ha⟩: ∃a,a=x/4294967296:=⟨_,rfl⟩;obtain⟨b,hb⟩: ∃b,b=x%4294967296:=⟨_,rfl⟩;obtain⟨c,hc⟩: ∃c,c=y/4294967296:=⟨_,rfl⟩;obtain⟨d,hd⟩: ∃d,d=y%4294967296:=⟨_,rfl⟩;have hx:x=a*4294967296+b:=by omega
 have hy:y=c*4294967296+d:=by omega
 rw[<-ha,<- hb,<- hc,<- hd];have e:x*y=a*c*18446744073709551616+(a*d+b*c)*4294967296+b*d:=by rw[hx,hy];grind
 rw[e]
 have bd: ∀u v:Int,0<=u->u<=4294967295->0<=v->v<=4294967295->0<=u*v/\u*v<=18446744065119617025:=fun u v h1 h2 h3 h4=>
  ⟨Int.mul_nonneg h1 h3,Int.mul_le_mul h2 h4 h3 (by omega)⟩
 have h1:=bd a c (by omega) (by omega) (by omega) (by omega);have h2:=bd a d (by omega) (by omega) (by omega) (by omega);have h3:=bd b c (by omega) (by omega) (by omega) (by omega);have h4:=bd b d (by omega) (by omega) (by omega) (by omega);generalize a*c=p at*;generalize a*d=q at*;generalize b*c=r at*;generalize b*d=s at*;omega
end Go.Big
end
