/-
  Part 5 of the proof of the law FnExpSum: XgMk, XBitOps, XSetN, XBMul, XCmpB. Conditions: those of each statement.
-/
import Derived.Test.YthecibbmbnpegaaGreatDoorK04
import Derived.Laws.BitsAllLaws
import Derived.Lib.SliceRun
import Derived.Laws.Bits64
import Derived.Deep.RegionWith
set_option linter.unusedSimpArgs false
set_option linter.unusedVariables false
set_option maxRecDepth 100000
set_option maxHeartbeats 2000000
section
namespace Go.Big
open Go.RowKit
section
variable {P:Program}{ops:Array Oper}{rest:List Oper}{o:Oper}{a:Act}{Q:Exit->Act->World->Prop}
theorem wp_mkc{w:World}(hgd:o.guard=none)(l c:Operand)(t:TypeId)(ho:o.op= .makeSlice t l c)(k:IntKind)(T:TypeId)(bytes:Nat)(ht:IntTy P k t T bytes)(hby:bytes<=8)
 (n m:Nat)(hl:a.eval l= .int .i64 (n:Int))(hc:a.eval c= .int .i64 (m:Int))(hnm:n<=m)(hn:m<=1099511627776)
 (h: ∀g w',w.heap.size<=g->Row k T w' g (List.replicate m 0)->Fr [] w w'->wpList P ops Q rest (a.put o.dst (.slice (some ⟨g,0,none⟩) n m)) w'):wpList P ops Q (o::rest) a w:=by
 refine wpList_plain hgd fun K hK=> ?_
 obtain⟨ht,hi⟩:=ht;obtain⟨i,hi,hz,hsz,hb⟩:=info_parts hi
 have hbb:(i.bytes:Int)*(m:Int)<=281474976710656:=by
  have:bytes*m<=8*1099511627776:=Nat.mul_le_mul hby hn;rw[hb];omega
 have hrun:=run_make (P:=P) w t T i (.int k 0) ht hi hz .i64 .i64 (n:Int) (m:Int) (by omega) (by omega) hbb (by omega);simp only[Int.toNat_natCast,hsz,Nat.mul_one]at hrun;rw[show(Value.int k 0).cells= #[.int k 0]from rfl,cells_list,List.map_replicate,List.toArray_replicate]at hrun;unfold Oper.wp;simp[execOp,ho,hl,hc,hrun,Result.andThen];exact hK _ _ (h _ _ (Nat.le_refl _) (Row.zeros _ _ _ _) ((Fr.refl _ _).alloc _))
end
end Go.Big
namespace Go.Proofs.YthecibbmbnpegaaGreatDoor
open Go.Big Go.RowKit
theorem make_any(n:Nat)(w:World)(hn0:0<n)(hn:n<=1000000000):
 Calls Tryz.prog 42 #[.slice none 0 0,.int .i64 (n:Int)] w fun e w'=> ∃b c,e= .returned (.slice (some ⟨b,0,none⟩) n c)/\n<=c/\c<=n+4/\Row .u64 51 w' b (List.replicate c 0)/\w.heap.size<=b/\Fr [] w w':=by
 by_cases h1:n=1
 ·subst h1
  go_enter Tryz.func42,Tryz.ntmps42;go_wp2_with (at_make;refine wp_mkc rfl (.const (.int .i64 1)) (.const (.int .i64 1)) _ rfl .u64 51 8 ty_big (by omega) 1 1 rfl rfl (by omega) (by omega) ?_;intro g w1 hg row f);go_ret;exact⟨g,1,rfl,by omega,by omega,row,hg,f⟩
 ·have hw:IntKind.i64.wrap ((n:Int)+4)=((n+4:Nat):Int):=by rw[IntKind.wrap_i64];omega
  have h1':((n:Int)==1)=false:=by rw[beq_eq_false_iff_ne];omega
  go_enter Tryz.func42,Tryz.ntmps42;go_wp2_with (at_make;refine wp_mkc rfl (.tmp 15) (.tmp 17) _ rfl .u64 51 8 ty_big (by omega) n (n+4) rfl (by first|rfl|(show Value.int IntKind.i64 _=_;congr 1)) (by omega) (by omega) ?_;intro g w1 hg row f);go_ret;exact⟨g,n+4,rfl,by omega,by omega,row,hg,f⟩
end Go.Proofs.YthecibbmbnpegaaGreatDoor
end
section
namespace Go.Proofs.YthecibbmbnpegaaGreatDoor
open Go.Big Go.RowKit
theorem fr_new''{w w1 w2:World}{b:Nat}(h:Fr [] w w1)(h':Fr [b] w1 w2)(hb:w.heap.size<=b):Fr [] w w2:=
 h.trans h' (fun x hx hlt=>by simp at hx;omega)
theorem SW.zero(w:World):SW w (.slice none 0 0) 0:=⟨[],Sl.nil _ _,DG.nil _,NZ.nil,rfl⟩
theorem src_spl{w:World}{T:TypeId}{b:Nat}{L cs:List Int}(h:Row .u64 T w b (spl L 0 cs))(hl:cs.length<=L.length):Src .u64 w b 0 cs:=by
 have e:=(h.src (off:=0) (Nat.zero_le _)).take cs.length;rw[List.drop_zero]at e;have e2:(spl L 0 cs).take cs.length=cs:=by unfold spl;simp
 rwa[e2]at e
theorem zzOutW_any(v:Value)(n:Int)(w:World)(h:SW w v n)(hb:n<BIG):Calls Tryz.prog 26 #[v] w (RetW n w):=by
 obtain⟨ys,h1,h2,h3,rfl⟩:=h;refine(zzOut_any v ys w h1 (by have:=len_BIG64 h2 h3 hb;omega)).mono ?_;rintro e w' ⟨v',rfl,sl,f⟩;exact⟨v',rfl,⟨ys,sl,h2,h3,rfl⟩,f⟩
end Go.Proofs.YthecibbmbnpegaaGreatDoor
end
namespace Go.Big
theorem or_bit0(a c r:Nat)(hc:c<2^r):(2^(r+1)*a+c) ||| 2^r=2^(r+1)*a+(2^r+c):=by
 have h1:c<2^(r+1):=by rw[Nat.pow_succ];omega
 have h2:2^r+c<2^(r+1):=by rw[Nat.pow_succ];omega
 have e:=Nat.two_pow_add_eq_or_of_lt hc 1;rw[Nat.mul_one]at e;rw[Nat.two_pow_add_eq_or_of_lt h1,Nat.two_pow_add_eq_or_of_lt h2,Nat.or_assoc,Nat.or_comm c,<- e]
theorem or_bit1(a c r:Nat)(hc:c<2^r):(2^(r+1)*a+(2^r+c)) ||| 2^r=2^(r+1)*a+(2^r+c):=by
 have h2:2^r+c<2^(r+1):=by rw[Nat.pow_succ];omega
 have e:=Nat.two_pow_add_eq_or_of_lt hc 1;rw[Nat.mul_one]at e;rw[Nat.two_pow_add_eq_or_of_lt h2,Nat.or_assoc,e,Nat.or_assoc,Nat.or_comm c,<- Nat.or_assoc (2^r),Nat.or_self]
theorem bit_split(t r:Nat):t=2^(r+1)*(t/2^(r+1))+(2^r*(t/2^r%2)+t%2^r):=by
 have h1:=Nat.div_add_mod t (2^(r+1));have h2:=Nat.mod_mul (x:=t) (a:=2^r) (b:=2);rw[<-Nat.pow_succ]at h2;rw[h2,Nat.add_comm (t%2^r)]at h1;exact h1.symm
theorem or_bit(t r:Nat):(t ||| 2^r)+2^r*(t/2^r%2)=t+2^r:=by
 have hs:=bit_split t r;have hc:=Nat.mod_lt t (Nat.two_pow_pos r);rcases Nat.mod_two_eq_zero_or_one (t/2^r)with h|h
 ·rw[h,Nat.mul_zero,Nat.zero_add]at hs
  rw[h];have:=or_bit0 (t/2^(r+1)) (t%2^r) r hc;rw[<-hs]at this;omega
 ·rw[h,Nat.mul_one]at hs
  rw[h];have:=or_bit1 (t/2^(r+1)) (t%2^r) r hc;rw[<-hs]at this;omega
theorem pow_cast(r:Nat):(2:Int)^r=((2^r:Nat):Int):=by simp
theorem pow_lt64{r:Nat}(hr:r<64):(2^r:Nat)<18446744073709551616:=by
 have:=Nat.pow_lt_pow_right (a:=2) (by omega) hr;omega
theorem u64_or_bit(t:Int)(r:Nat)(h0:0<=t)(h1:t<18446744073709551616)(hr:r<64):bits .or .u64 t (2^r)=t+2^r-2^r*(t/2^r%2):=by
 obtain⟨m,rfl⟩:=Int.eq_ofNat_of_zero_le h0;rw[pow_cast,u64_or_nat _ _ (by omega) (pow_lt64 hr)];have:=or_bit m r;have e:(m:Int)/((2^r:Nat):Int)%2=((m/2^r%2:Nat):Int):=by simp
 rw[e,<- Int.natCast_mul];omega
theorem u64_and_mask(t:Int)(r:Nat)(h0:0<=t)(h1:t<18446744073709551616)(hr:r<64):bits .and .u64 t (2^r-1)=t%2^r:=by
 obtain⟨m,rfl⟩:=Int.eq_ofNat_of_zero_le h0;have hp:=Nat.two_pow_pos r;have e:(2:Int)^r-1=((2^r-1:Nat):Int):=by rw[pow_cast];omega
 rw[e,u64_and_nat _ _ (by omega) (by have:=pow_lt64 hr;omega),Nat.and_two_pow_sub_one_eq_mod];simp
theorem mod_words{B:Int}{s q:Nat}{xs:List Int}(hB:B=2^s)(hd:DG B xs)(hq:q<=xs.length):val B xs%2^(s*q)=val B (xs.take q):=by
 have hB0:0<B:=by rw[hB];exact pow_pos_ (by omega) s
 have e:(2:Int)^(s*q)=B^q:=by rw[Int.pow_mul,hB]
 have h1:=val_nonneg hB0 (hd.take q);have h2:=val_lt hB0 (hd.take q);rw[List.length_take,Nat.min_eq_left hq]at h2;rw[val_split B xs q hq,e,Int.add_mul_emod_self_left,Int.emod_eq_of_lt h1 h2]
theorem emod_part{P Q a b:Int}(hP:0<P)(ha:0<=a)(haP:a<P)(hQ:0<Q):(a+P*b)%(P*Q)=a+P*(b%Q):=by
 have h1:=Int.emod_add_mul_ediv b Q;have h2:=Int.emod_nonneg b (show Q≠0 by omega);have h3:=Int.emod_lt_of_pos b hQ
 have e:a+P*b=(a+P*(b%Q))+P*Q*(b/Q):=by
  have:P*b=P*(b%Q)+P*Q*(b/Q):=by rw[Int.mul_assoc,<- Int.mul_add,h1]
  omega
 have h4:P*(b%Q)<=P*(Q-1):=Int.mul_le_mul_of_nonneg_left (by omega) (by omega);have h5:0<=P*(b%Q):=Int.mul_nonneg (by omega) h2;rw[Int.mul_sub,Int.mul_one]at h4;rw[e,Int.add_mul_emod_self_left,Int.emod_eq_of_lt (by omega) (by omega)]
theorem mod_words'{B:Int}{s q r:Nat}{xs:List Int}(hB:B=2^s)(hd:DG B xs)(hq:q<xs.length):val B xs%2^(s*q+r)=val B (xs.take q++[xs.getD q 0%2^r])\/s<r:=by
 rcases Nat.lt_or_ge s r with h|h
 ·exact .inr h
 left;have hB0:0<B:=by rw[hB];exact pow_pos_ (by omega) s
 have e:(2:Int)^(s*q+r)=B^q*2^r:=by rw[Int.pow_add,Int.pow_mul,hB]
 have h1:=val_nonneg hB0 (hd.take q);have h2:=val_lt hB0 (hd.take q);rw[List.length_take,Nat.min_eq_left (by omega)]at h2;have e2:=val_split B xs (q+1) (by omega);rw[val_take_succ']at e2
 have e3:B^(q+1)*val B (xs.drop (q+1))=B^q*2^r*(2^(s-r)*val B (xs.drop (q+1))):=by
  have:B=2^r*2^(s-r):=by rw[hB,<- Int.pow_add];congr 1;omega
  rw[Int.pow_succ];conv=>lhs;rw[Int.mul_assoc,Int.mul_comm B]
  conv=>lhs;rw[this]
  grind
 rw[val_snoc,List.length_take,Nat.min_eq_left (by omega),e2,e,e3,Int.add_mul_emod_self_left];exact emod_part (pow_pos_ hB0 q) h1 h2 (pow_pos_ (by omega) r)
end Go.Big
namespace Go.Big
open Go.RowKit
section
variable {P:Program}{ops:Array Oper}{rest:List Oper}{o:Oper}{a:Act}{Q:Exit->Act->World->Prop}
theorem setCells_row{k:IntKind}{T:TypeId}{w:World}{g off n:Nat}{L:List Int}(h:Row k T w g L)(hfit:off+n<=L.length):
 Row k T (w.setCells g off (List.replicate n (.int k 0))) g (spl L off (List.replicate n 0))/\Fr [g] w (w.setCells g off (List.replicate n (.int k 0))):=by
 induction n generalizing w L off with
 |zero=>simp only[List.replicate_zero,World.setCells];rw[spl_nil];exact⟨h,Fr.refl _ _⟩
 |succ n ih=>
  simp only[List.replicate_succ,World.setCells];have h1:=h.set off 0;have h2:=ih (off:=off+1) h1 (by rw[List.length_set];omega);refine⟨?_,?_⟩
  ·have e:spl (L.set off 0) (off+1) (List.replicate n 0)=spl L off (0::List.replicate n 0):=by
    unfold spl;rw[List.take_set,List.drop_set_of_lt (by simp;omega),List.take_succ_eq_append_getElem (by omega),List.set_append_right _ _ (by rw[List.length_take];omega),List.length_take,Nat.min_eq_left (by omega),Nat.sub_self];simp[Nat.add_assoc,Nat.add_comm 1]
   rw[<-e];exact h2.1
  ·have h3:Fr [g] w (w.setCell ⟨g,off,none⟩ (.int k 0)):=by apply Fr.set _ (.inl (by simp));exact Fr.refl _ _
   exact h3.trans h2.2 (fun _ hx _=>hx)
theorem run_clear_row{w:World}(k:IntKind)(t T ty:TypeId)(bytes:Nat)(ht:IntTy P k t T bytes)(dp:Option Addr)(g off n c:Nat)(L:List Int)(hrow:Row k T w g L)(hdp:0<n->dp=some ⟨g,off,none⟩)(hfit:off+n<=L.length):
 ∃w',(Builtin.clear_ #[t] ty #[.slice dp n c]).run P w= .ok (.tuple #[]) w'/\Row k T w' g (spl L off (List.replicate n 0))/\Fr [g] w w':=by
 obtain⟨ht,hi⟩:=ht;obtain⟨i,hi,hz,hsz,hb⟩:=info_parts hi;by_cases h0:n=0
 ·subst h0
  refine⟨w,?_,?_,Fr.refl _ _⟩
  ·cases dp<;>simp[Builtin.clear_,run_underlying ht]
  ·rw[List.replicate_zero,spl_nil];exact hrow
 ·obtain rfl:=hdp (by omega)
  refine⟨_,Lib.run_clear_slice w t T ty (.int k 0) ht (fun w=>by simp[zeroValue,typeInfo,hi,hz]) rfl rfl g off n c (by omega) (fun j hj=>by rw[hrow.cell (by omega)];rfl) (fun j hj=>hrow.frozen _),setCells_row hrow hfit⟩
theorem wp_clear{w:World}(hgd:o.guard=none)(d:Operand)(t:TypeId)(ho:o.op= .call {callee:= .builtin .clear,args:= #[d],argTypes:= #[t]})(k:IntKind)(T:TypeId)(bytes:Nat)(ht:IntTy P k t T bytes)
 (dp:Option Addr)(g off n c:Nat)(hd:a.eval d= .slice dp n c)(hdp:0<n->dp=some ⟨g,off,none⟩)(L:List Int)(hrow:Row k T w g L)(hfit:off+n<=L.length)
 (h: ∀w',Row k T w' g (spl L off (List.replicate n 0))->Fr [g] w w'->wpList P ops Q rest (a.put o.dst (.tuple #[])) w'):wpList P ops Q (o::rest) a w:=by
 refine wpList_plain hgd fun K hK=> ?_
 obtain⟨w',hrun,h1,h2⟩:=run_clear_row (P:=P) k t T o.type bytes ht dp g off n c L hrow hdp hfit;unfold Oper.wp;simp[execOp,ho,resolve,invoke,builtin,hd,hrun,Result.andThen];exact hK _ _ (h _ h1 h2)
end
theorem spl_set_in{L:List Int}{o:Nat}{cs:List Int}{j:Nat}(hL:o<=L.length)(h:j<cs.length)(v:Int):(spl L o cs).set (o+j) v=spl L o (cs.set j v):=by
 have ht:(L.take o).length=o:=by rw[List.length_take];omega
 unfold spl;rw[List.set_append_right _ _ (by omega),ht,Nat.add_sub_cancel_left,List.set_append_left _ _ h,List.length_set]
theorem spl_get_in{L:List Int}{o:Nat}{cs:List Int}{j:Nat}(hL:o<=L.length)(h:j<cs.length):(spl L o cs).getD (o+j) 0=cs.getD j 0:=by
 have ht:(L.take o).length=o:=by rw[List.length_take];omega
 simp only[List.getD_eq_getElem?_getD];unfold spl;rw[List.getElem?_append_right (by omega),ht,Nat.add_sub_cancel_left,List.getElem?_append_left h]
theorem take_set_top{xs:List Int}{m:Nat}{t:Int}(h:m<xs.length):(xs.take (m+1)).set m t=xs.take m++[t]:=by
 rw[List.take_succ_eq_append_getElem h,List.set_append_right _ _ (by rw[List.length_take];omega),List.length_take,Nat.min_eq_left (by omega),Nat.sub_self];simp
theorem fr_same'{w w1 w2:World}{b:Nat}(h:Fr [b] w w1)(h':Fr [b] w1 w2):Fr [b] w w2:=h.trans h' (fun _ hx _=>hx)
end Go.Big
namespace Go.Proofs.YthecibbmbnpegaaGreatDoor
open Go.Big Go.RowKit
theorem size_wordS:(Tryz.prog.info? 51).map (·.size)=some 1:=by kernel_rfl
theorem make0(w:World):Calls Tryz.prog 42 #[.slice none 0 0,.int .i64 0] w fun e w'=>e= .returned (.slice none 0 0)/\w=w':=by
 go_enter Tryz.func42,Tryz.ntmps42;go_wp2_with fail;go_ret;exact⟨rfl,rfl⟩
theorem set_any(v:Value)(X:Int)(w:World)(h:SW w v X)(hX:X<BIG):Calls Tryz.prog 41 #[.slice none 0 0,v] w (RetW X w):=by
 have H:=κ h;obtain⟨xs,sl,dx,zx,rfl⟩:=h;have hl:=len_BIG64 dx zx hX;have SL:=κ sl;obtain⟨A,cap,rfl,hlc,hm,hs⟩:=sl;unfold maxLen at hm;have DX:=κ dx;have ZX:=κ zx;clear hs dx zx hX;by_cases h0:xs.length=0
 ·have hx:xs=[]:=List.eq_nil_of_length_eq_zero h0
  subst hx;simp only[List.length_nil]at*;clear h0;go_enter Tryz.func41,Tryz.ntmps41
  go_wp2_with (first
   |(go_at_call 42;refine(make0 _).mono ?_;rintro e w1 ⟨rfl,rfl⟩)
   |(refine wpList_copy_nothing rfl (.tmp 9) (.tmp 10) _ _ rfl 51 Tryz.underlying43 size_wordS none A 0 0 0 cap rfl rfl rfl ?_));go_ret;exact⟨_,rfl,SW.zero _,Fr.refl _ _⟩
 ·have HM:=κ (fun W=>make_any xs.length W (by omega) (by omega))
  go_enter Tryz.func41,Tryz.ntmps41
  go_wp2_with (first
   |(go_at_call 42;refine(HM.out _).mono ?_;rintro e w1 ⟨b,c,rfl,hc1,hc2,row,hb,f⟩;have HROW:=κ row;clear row)
   |(refine wp_copy rfl (.tmp 9) (.tmp 10) _ _ rfl .u64 51 Tryz.underlying43 size_wordS b 0 xs.length c rfl _ xs rfl (SL.out.fr0 f) (List.replicate c 0) HROW.out (by simp;omega) ?_;intro w2 row2 f2;have HR2:=κ row2;clear row2));go_ret;have row2:=HR2.out;rw[List.take_length]at row2;exact⟨_,rfl,⟨xs,(src_spl row2 (by simp;omega)).sl rfl hc1 (by unfold maxLen;omega),DX.out,ZX.out,rfl⟩,fr_new'' f f2 hb⟩
theorem trunc_full{xs:List Int}{n q:Nat}(hd:DG 18446744073709551616 xs)(hq:n<=64*q)(hr:64*q<n+64)(hl:xs.length<q):val 18446744073709551616 xs%2^n=val 18446744073709551616 xs:=by
 have h1:=val_nonneg (by omega) hd;have h2:=val_lt (by omega) hd;have e:(18446744073709551616:Int)^xs.length=2^(64*xs.length):=by rw[Int.pow_mul];rfl
 have h3:=pow_le_pow_ (B:=2) (by omega) (show 64*xs.length<=n by omega);exact Int.emod_eq_of_lt h1 (by omega)
end Go.Proofs.YthecibbmbnpegaaGreatDoor
namespace Go.Big
open Go.RowKit
theorem spl_spl{L zs seg:List Int}{o i:Nat}(hL:o+zs.length<=L.length)(h:i+seg.length<=zs.length):spl (spl L o zs) (o+i) seg=spl L o (spl zs i seg):=by
 have ht:(L.take o).length=o:=by rw[List.length_take];omega
 have hl:(spl zs i seg).length=zs.length:=spl_len h;unfold spl at*;rw[List.take_append,List.drop_append];simp only[List.length_append,List.length_take,List.take_append,List.drop_append,List.take_take,List.drop_drop,List.length_drop];rw[Nat.min_eq_left (show o<=L.length by omega),Nat.min_eq_right (show o<=o+i by omega),Nat.min_eq_left (show i<=zs.length by omega)];rw[show o+i-o=i by omega,show i-zs.length=0 by omega,List.take_zero,List.append_nil];rw[List.drop_eq_nil_of_le (show(L.take o).length<=o+i+seg.length by omega),List.nil_append];rw[show o+i+seg.length-o=i+seg.length by omega];rw[show i+seg.length-zs.length=0 by omega];simp only[List.append_assoc];rw[show i+(seg.length+(zs.length-(i+seg.length)))=zs.length by omega,Nat.add_zero]
theorem val_spl{B:Int}{zs seg:List Int}{i:Nat}(h:i+seg.length<=zs.length):val B (spl zs i seg)=val B zs+B^i*(val B seg-val B ((zs.drop i).take seg.length)):=by
 have e1:=val_split B zs i (by omega);have e2:=val_split B (zs.drop i) seg.length (by rw[List.length_drop];omega);unfold spl;rw[val_append,val_append,List.length_take,Nat.min_eq_left (by omega),e1,e2,List.drop_drop];grind
def Apart(bz oz n bx ox m:Nat):Prop:=bx≠bz\/ox+m<=oz\/oz+n<=ox
theorem Src.keep{k:IntKind}{T:TypeId}{w w':World}{b:Nat}{L:List Int}{o:Nat}{cs:List Int}{bx ox:Nat}{xs:List Int}(hs:Src k w bx ox xs)(hr:Row k T w b L)
 (hr':Row k T w' b (Big.spl L o cs))(hf:Fr [b] w w')(hfit:o+cs.length<=L.length)(ha:Apart b o cs.length bx ox xs.length):Src k w' bx ox xs:=fun j hj=>
 hs.spl hr hr' hf hfit hj (by rcases ha with h|h|h;exact .inl h;exact .inr (.inl (by omega));exact .inr (.inr (by omega)))
theorem Src.drew_{k:IntKind}{w:World}{b off:Nat}{xs:List Int}(h:Src k w b off xs):Src k w.drew b off xs:=h
theorem Row.part{k:IntKind}{T:TypeId}{w:World}{b o i n:Nat}{L zs:List Int}(h:Row k T w b (spl L o zs))(hL:o+zs.length<=L.length)(hi:i+n<=zs.length):Src k w b (o+i) ((zs.drop i).take n):=by
 intro j hj;rw[List.length_take,List.length_drop]at hj;rw[h.cell (by rw[spl_len hL];omega)];rw[Nat.add_assoc,spl_get_in (by omega) (by omega)];congr 2;simp only[List.getD_eq_getElem?_getD];rw[List.getElem?_take,if_pos (by omega),List.getElem?_drop]
end Go.Big
namespace Go.Proofs.YthecibbmbnpegaaGreatDoor
open Go.Big Go.RowKit
theorem addMulVVWWo_any(bz oz cz bx ox cx by_ oy cy n:Nat)(L xs ys:List Int)(m a:Int)(w:World)(hz:Row .u64 51 w bz L)(hfit:oz+n<=L.length)(hnx:xs.length=n)(hsx:Src .u64 w bx ox xs)(hdx:DG 18446744073709551616 xs)(halx:NoTouch bz oz bx ox n)
 (hny:ys.length=n)(hsy:Src .u64 w by_ oy ys)(hdy:DG 18446744073709551616 ys)(haly:NoTouch bz oz by_ oy n)(hn9:n<=1000000000)(hm0:0<=m)(hm1:m<18446744073709551616)(ha0:0<=a)(ha1:a<18446744073709551616):
 Calls Tryz.prog 82 #[.slice (some ⟨bz,oz,none⟩) n cz,.slice (some ⟨bx,ox,none⟩) n cx,.slice (some ⟨by_,oy,none⟩) n cy,.int .u64 m,.int .u64 a] w (VecPost 51 w bz oz n L (fun zs c=>0<=c/\c<18446744073709551616/\val 18446744073709551616 zs+18446744073709551616^n*c=val 18446744073709551616 xs+val 18446744073709551616 ys*m+a)):=by
 have C:=κ (addMulVVWW_any bz oz cz bx ox cx by_ oy cy n L xs ys m a w hz hfit hnx hsx hdx halx hny hsy hdy haly hn9 hm0 hm1 ha0 ha1);clear hz hfit hnx hsx hdx halx hny hsy hdy haly;go_enter Tryz.func82,Tryz.ntmps82;go_wp2_with (go_at_call 117;refine(Hid.out C).mono ?_;rintro e w1 ⟨zs,c,rfl,H⟩;have HH:=κ H;clear H C);go_ret;exact⟨zs,c,rfl,HH.out⟩
def RowPost(T:TypeId)(w:World)(bz oz n:Nat)(L:List Int)(V:Int)(e:Ending)(w':World):Prop:=
 ∃zs:List Int,e= .returned (.tuple #[])/\Row .u64 T w' bz (spl L oz zs)/\Fr [bz] w w'/\zs.length=n/\DG 18446744073709551616 zs/\val 18446744073709551616 zs=V
def BMRel(T:TypeId)(w:World)(bz oz m n:Nat)(L ys:List Int)(X:Int)(g:Nat)(iv:Value)(wr:World):Prop:=
 ∃(i:Nat) (zs:List Int),i<=n/\g=n-i/\iv= .int .i64 i/\Row .u64 T wr bz (spl L oz zs)/\Fr [bz] w wr/\zs.length=m+n/\DG 18446744073709551616 zs/\(∀j,m+i<=j->zs.getD j 0=0)/\val 18446744073709551616 zs=X*val 18446744073709551616 (ys.take i)
theorem basicMul_any(bz oz nz cz bx ox cx by_ oy cy m n:Nat)(L xs ys:List Int)(w:World)(hz:Row .u64 51 w bz L)(hfit:oz+nz<=L.length)(hmn:m+n<=nz)(hcz:nz<=cz)
 (hnx:xs.length=m)(hsx:Src .u64 w bx ox xs)(hdx:DG 18446744073709551616 xs)(hax:Apart bz oz (m+n) bx ox m)
 (hny:ys.length=n)(hsy:Src .u64 w by_ oy ys)(hdy:DG 18446744073709551616 ys)(hay:Apart bz oz (m+n) by_ oy n)(hm0:0<m)(hn0:0<n)(hm9:m<=1000000)(hn9:n<=1000000)(hcz9:cz<=9223372036854775807)(hcx:m<=cx)(hcy:n<=cy):
 Calls Tryz.prog 51 #[.slice (some ⟨bz,oz,none⟩) nz cz,.slice (some ⟨bx,ox,none⟩) m cx,.slice (some ⟨by_,oy,none⟩) n cy] w (RowPost 51 w bz oz (m+n) L (val 18446744073709551616 xs*val 18446744073709551616 ys)):=by
 have HZ:=κ hz;have HNx:=κ hnx;have HSx:=κ hsx;have HDx:=κ hdx;have HAx:=κ hax;have HNy:=κ hny;have HSy:=κ hsy;have HDy:=κ hdy;have HAy:=κ hay;clear hz hnx hsx hdx hax hny hsy hdy hay;go_enter Tryz.func51,Tryz.ntmps51;go_wp2_with (refine wp_clear rfl (.tmp 14) _ rfl .u64 51 8 ty_big (some ⟨bz,oz,none⟩) bz oz (m+n) cz rfl (fun _=>rfl) L HZ.out (by omega) ?_;intro w1 row1 f1;have HR1:=κ row1;have HF1:=κ f1;clear row1 f1);go_loopg [17] n (BMRel 51 w bz oz m n L ys (val 18446744073709551616 xs));case atStart=>exact⟨0,List.replicate (m+n) 0,by omega,rfl,rfl,HR1.out,HF1.out,by simp,DG.rep (by omega) _,fun j _=>by simp only[List.getD_eq_getElem?_getD,List.getElem?_replicate];split<;>rfl,by rw[val_rep];simp[val_nil]⟩
 case round=>
  obtain⟨i,zs,hi,rfl,rfl,hrow,hf,hl,hdg,hz0,hv⟩:=hrel;have HROW:=κ hrow;have HF:=κ hf;have HL:=κ hl;have HZ0:=κ hz0;have HV:=κ hv;by_cases h1:i<n
  ·have cy:=(HSy.out.keep HZ.out hrow hf (by omega) (by rw[hl,HNy.out];exact HAy.out)) i (by rw[HNy.out];exact h1)
   obtain⟨d,hd⟩: ∃d,d=ys.getD i 0:=⟨_,rfl⟩;rw[<-hd]at cy;have hdd:=HDy.out.getD (by omega) i;rw[<-hd]at hdd;obtain⟨hd0,hd1⟩:=hdd;have HD:=κ hd
   have hrel2: ∀zs' wr',Row .u64 51 wr' bz (spl L oz zs')->Fr [bz] w wr'->zs'.length=m+n->DG 18446744073709551616 zs'->(∀j,m+(i+1)<=j->zs'.getD j 0=0)->val 18446744073709551616 zs'=val 18446744073709551616 zs+18446744073709551616^i*(val 18446744073709551616 xs*d)->BMRel 51 w bz oz m n L ys (val 18446744073709551616 xs) (n-(i+1)) (.int .i64 ((i:Int)+1)) wr':=by
    intro zs' wr' a1 a2 a3 a4 a5 a6;refine⟨i+1,zs',by omega,rfl,by go_num,a1,a2,a3,a4,a5,?_⟩;rw[a6,HV.out,val_take_succ',<- HD.out];grind
   have HR:=κ hrel2;clear hd hrel2 hl hz0 hv;by_cases h2:d=0
   ·subst h2
    clear hrow hf;go_wp2_with fail;go_roundg (n-(i+1));case measure=>omega
    case rel=>exact HR.out zs _ HROW.out HF.out HL.out hdg (fun j hj=>HZ0.out j (by omega)) (by rw[Int.mul_zero,Int.mul_zero,Int.add_zero])
   ·have hd2:(d==0)=false:=by rw[beq_eq_false_iff_ne];exact h2
    have hci: ¬cz=i:=by omega
    have hL1:oz+zs.length<=L.length:=by rw[HL.out];omega
    have hL2:(spl L oz zs).length=L.length:=spl_len hL1;have hsz:Src .u64 wr.drew bz (oz+i) ((zs.drop i).take m):=hrow.drew.part hL1 (by rw[HL.out];omega);have hlz:((zs.drop i).take m).length=m:=by rw[List.length_take,List.length_drop,HL.out];omega
    have hsx2:Src .u64 wr.drew bx ox xs:=(HSx.out.keep HZ.out hrow hf (by rw[HL.out];omega) (by rw[HL.out,HNx.out];exact HAx.out)).drew_;have CA:=κ (addMulVVWWo_any bz (oz+i) (cz-i) bz (oz+i) (cz-i) bx ox cx m (spl L oz zs) _ xs d 0 wr.drew hrow.drew (by rw[hL2];omega) hlz hsz ((hdg.drop i).take m) (.inr (.inl (Nat.le_refl _))) HNx.out hsx2 HDx.out (by rcases HAx.out with h|h|h;exact .inl h;exact .inr (.inr (by omega));exact .inr (.inl (by omega))) (by omega) hd0 hd1 (by omega) (by omega));have HLZ:=κ hlz;have ein:((m:Int)+(i:Int)).toNat=m+i:=by omega
    have ein2:((i:Int)+(m:Int)).toNat=i+m:=by omega
    have hwi:IntKind.i64.wrap ((m:Int)+(i:Int))=(m:Int)+(i:Int):=by rw[IntKind.wrap_i64];omega
    have hwi2:IntKind.i64.wrap ((i:Int)+(m:Int))=(i:Int)+(m:Int):=by rw[IntKind.wrap_i64];omega
    have hii:(i:Int)+(m:Int)<=(cz:Int):=by omega
    have hi0:(0:Int)<=(m:Int)+(i:Int):=by omega
    have hi1:(m:Int)+(i:Int)<(nz:Int):=by omega
    clear hsz hlz hsx2 hrow hf hL1 hL2;go_wp2_with fail;go_region_with (go_at_call 82;refine(Hid.out CA).mono ?_;rintro e w2 ⟨seg,k,rfl,row2,f2,hsl,hsd,hk0,hk1,hv2⟩;have HSL:=κ hsl;have HV2:=κ hv2;have HF2:=κ f2;rw[spl_spl (by rw[HL.out];omega) (by rw[HSL.out,HL.out];omega)]at row2;have hll:=spl_len (L:=zs) (o:=i) (cs:=seg) (by rw[HSL.out,HL.out];omega);have hfz:=row2.frozen (oz+(m+i));have cz2:=row2.cell (i:=oz+(m+i)) (by rw[spl_len (by rw[hll,HL.out];omega)];omega);obtain⟨old,hold⟩: ∃old,old=(spl L oz (spl zs i seg)).getD (oz+(m+i)) 0:=⟨_,rfl⟩;rw[<-hold]at cz2;have HR2:=κ row2;clear hsl hv2 f2 hold hll row2)
    all_goals (
     have hll:(spl zs i seg).length=m+n:=by rw[spl_len (by rw[HSL.out,HL.out];omega)];exact HL.out
     have row3:=HR2.out.set (oz+(m+i)) k;rw[spl_set_in (by omega) (by rw[hll];omega)]at row3
     have hold:(spl zs i seg).getD (m+i) 0=0:=by
      rw[spl_get (by rw[HSL.out,HL.out];omega),if_neg (by omega),if_neg (by rw[HSL.out];omega)];exact HZ0.out _ (by omega)
     have G:=κ (HR.out ((spl zs i seg).set (m+i) k) _ row3 ((fr_same HF.out ((Fr.refl _ _).drew.trans HF2.out (fun _ h _=>h))).set (.inl (by simp)) _) (by rw[List.length_set,hll]) ((spl_dg hdg hsd).set _ hk0 hk1) (fun j hj=>by
      rw[getD_set _ (by omega),spl_get (by rw[HSL.out,HL.out];omega),if_neg (by omega),if_neg (by rw[HSL.out];omega)];exact HZ0.out j (by omega)) (by
      rw[val_set' _ _ _ (by rw[hll];omega),hold,val_spl (by rw[HSL.out,HL.out];omega),HSL.out,Int.sub_zero,Nat.add_comm m i,Int.pow_add];have h:=HV2.out;grind));clear hll row3 hold HR2 HF2;go_wp2_with fail;go_roundg (n-(i+1));case measure=>omega
     case rel=>exact G.out)
  ·obtain rfl:i=n:=by omega
   have hv':=hv;rw[List.take_of_length_le (by rw[HNy.out];omega)]at hv';have HV':=κ hv';clear hv hv' hz0 hl hrow hf;go_wp2_with fail;go_end0;exact⟨zs,rfl,HROW.out,HF.out,HL.out,hdg,HV'.out⟩
theorem bcmp_any(va vb:Value)(n m:Int)(w:World)(ha:SW w va n)(hb:SW w vb m):
 Calls Tryz.prog 47 #[va,vb] w fun e w'=>e= .returned (.int .i64 (cmpI n m))/\Fr [] w w':=by
 obtain⟨da,⟨A,ca,rfl,hla,hma,hsa⟩,dga,nza,rfl⟩:=ha;obtain⟨db,⟨B,cb,rfl,hlb,hmb,hsb⟩,dgb,nzb,rfl⟩:=hb;unfold maxLen at hma hmb;have DA:=κ dga;have DB:=κ dgb;have NA:=κ nza;have NB:=κ nzb;clear dga dgb nza nzb;rcases Nat.lt_trichotomy da.length db.length with h|h|h
 ·have hne:(((da.length:Int)==(db.length:Int)))=false:=by simp;omega
  go_enter Tryz.func47,Tryz.ntmps47;go_wp2;go_ret;exact⟨by rw[cmpI_lt (lt_of_shorter (by omega) DA.out DB.out NB.out h)];rfl,Fr.refl _ _⟩
 ·obtain⟨n,hn⟩: ∃n,n=db.length:=⟨_,rfl⟩
  have hna:da.length=n:=by omega
  rw[hna]at hla ⊢
  rw[<-hn]at hlb ⊢
  have HN:=κ hn;have HNA:=κ hna;rcases Nat.eq_zero_or_pos n with h0|h0
  ·have e1:da=[]:=List.eq_nil_of_length_eq_zero (by omega)
   have e2:db=[]:=List.eq_nil_of_length_eq_zero (by omega);have E1:=κ e1;have E2:=κ e2;clear e1 e2 hn hna h hsa hsb;subst h0;go_enter Tryz.func47,Tryz.ntmps47;go_wp2;go_ret;rw[E1.out,E2.out,cmpI_eq];exact⟨rfl,Fr.refl _ _⟩
  ·obtain⟨m,hm⟩: ∃m,n=m+1:=⟨n-1,by omega⟩
   obtain⟨ba,oa,rfl,_,sa⟩:=hsa (by omega);obtain⟨bb,ob,rfl,_,sb⟩:=hsb (by omega);have SA:=κ sa;have SB:=κ sb;have HM:=κ hm;have hE:da.length=db.length:=h;clear hsa hsb sa sb hn hna h;subst hm;have hnz:(((m:Int)+1==0))=false:=by simp;omega
   have HE:=κ hE;clear hE;go_enter Tryz.func47,Tryz.ntmps47;go_wp2_with fail;go_loopg [7] (m+1) (fun g iv wr=> ∃k:Nat,k<=m/\g=k+1/\iv= .int .i64 k/\(∀j,k<j->j<da.length->da.getD j 0=db.getD j 0)/\Fr [] w wr);case atStart=>exact⟨m,Nat.le_refl _,rfl,rfl,fun j h1 h2=>absurd h2 (by rw[HNA.out];have:=HM.out;omega),Fr.refl _ _⟩
   case round=>
    obtain⟨k,hk,rfl,rfl,hsame,hf⟩:=hrel;have HS:=κ hsame;clear hsame;have hka:k<da.length:=by rw[HNA.out];have:=HM.out;omega
    have hkb:k<db.length:=by rw[<-HE.out];exact hka
    have cA:=(SA.out.fr hf (by simp)) k hka;have cB:=(SB.out.fr hf (by simp)) k hkb;obtain⟨x,hx⟩: ∃x,x=da.getD k 0:=⟨_,rfl⟩;obtain⟨y,hy⟩: ∃y,y=db.getD k 0:=⟨_,rfl⟩;rw[<-hx]at cA;rw[<-hy]at cB;have HX:=κ hx;have HY:=κ hy;clear hx hy;rcases Nat.eq_zero_or_pos k with h00|h00
    ·subst h00
     simp only[Nat.add_zero]at cA cB;rcases Int.lt_trichotomy x y with hc|hc|hc
     ·have hne:(x==y)=false:=by simp;omega
      go_wp2_with fail;go_quiet (fail);go_wp2_with fail;go_quiet (fail);go_wp2_with fail;go_ret;exact⟨by rw[cmpI_lt (lt_of_top (by omega) DA.out DB.out HE.out hka HS.out (by rw[<-HX.out,<- HY.out];exact hc))];rfl,by repeat (first|exact hf|apply Fr.drewN)⟩
     ·subst hc
      go_wp2_with fail;go_quiet (fail);go_wp2_with fail;go_quiet (fail);go_wp2_with fail;go_quiet (fail);go_wp2_with fail;go_ret
      have he:da=db:=by
       apply List.ext_getElem HE.out;intro j h1 h2;by_cases e:j=0
       ·subst e;have h3:=HX.out;rw[HY.out]at h3;rw[getD_in h1,getD_in h2]at h3;exact h3.symm
       ·have h3:=HS.out j (by omega) h1;rwa[getD_in h1,getD_in h2]at h3
      rw[he,cmpI_eq];exact⟨rfl,by repeat (first|exact hf|apply Fr.drewN)⟩
     ·have hne:(x==y)=false:=by simp;omega
      go_wp2_with fail;go_quiet (fail);go_wp2_with fail;go_quiet (fail);go_wp2_with fail;go_quiet (fail);go_wp2_with fail;go_ret;exact⟨by rw[cmpI_gt (lt_of_top (by omega) DB.out DA.out HE.out.symm hkb (fun i h1 h2=>(HS.out i h1 (by have:=HE.out;omega)).symm) (by rw[<-HX.out,<- HY.out];exact hc))];rfl,by repeat (first|exact hf|apply Fr.drewN)⟩
    ·obtain⟨j,rfl⟩: ∃j,k=j+1:=⟨k-1,by omega⟩
     rcases Int.lt_trichotomy x y with hc|hc|hc
     ·have hne:(x==y)=false:=by simp;omega
      go_wp2_with fail;go_quiet (fail);go_wp2_with fail;go_quiet (fail);go_wp2_with fail;go_ret;exact⟨by rw[cmpI_lt (lt_of_top (by omega) DA.out DB.out HE.out hka HS.out (by rw[<-HX.out,<- HY.out];exact hc))];rfl,by repeat (first|exact hf|apply Fr.drewN)⟩
     ·subst hc
      go_wp2_with fail;go_quiet (fail);go_wp2_with fail;go_roundg (j+1);case measure=>omega
      case rel=>
       refine⟨j,by omega,rfl,rfl,fun i h1 h2=> ?_,hf.drewN _⟩;by_cases e:i=j+1
       ·subst e;rw[<-HX.out,HY.out]
       ·exact HS.out i (by omega) h2
     ·have hne:(x==y)=false:=by simp;omega
      go_wp2_with fail;go_quiet (fail);go_wp2_with fail;go_quiet (fail);go_wp2_with fail;go_quiet (fail);go_wp2_with fail;go_ret;exact⟨by rw[cmpI_gt (lt_of_top (by omega) DB.out DA.out HE.out.symm hkb (fun i h1 h2=>(HS.out i h1 (by have:=HE.out;omega)).symm) (by rw[<-HX.out,<- HY.out];exact hc))];rfl,by repeat (first|exact hf|apply Fr.drewN)⟩
 ·have hne:(((da.length:Int)==(db.length:Int)))=false:=by simp;omega
  go_enter Tryz.func47,Tryz.ntmps47;go_wp2;go_ret;exact⟨by rw[cmpI_gt (lt_of_shorter (by omega) DB.out DA.out NA.out h)];rfl,Fr.refl _ _⟩
end Go.Proofs.YthecibbmbnpegaaGreatDoor
