/-
  Part 13 of the proof of the law FnExpSum: XBSqr. Conditions: those of each statement.
-/
import Derived.Test.YthecibbmbnpegaaGreatDoorK07
import Derived.Deep.DeepCutAuto
import Derived.Deep.RegionWith
import Derived.StillTailTactics
import Derived.Laws.Bits64
set_option linter.unusedSimpArgs false
set_option linter.unusedVariables false
set_option maxRecDepth 100000
set_option maxHeartbeats 8000000
namespace Go.Big
theorem Fc.to_drew{T:TypeId}{S:Nat->Nat->Prop}{w w1:World}(h:Fc T S w w1):Fc T S w w1.drew:=⟨h.os,h.tape,h.output,h.size,h.block,h.cell,h.row⟩
theorem Src.take_{k:IntKind}{w:World}{b o:Nat}{xs:List Int}(h:Src k w b o xs)(m:Nat):Src k w b o (xs.take m):=fun j hj=>by
 rw[List.length_take]at hj;rw[h j (by omega)];congr 2;simp[List.getD_eq_getElem?_getD,List.getElem?_take,show j<m by omega]
theorem put_none(a:Act)(v:Value):a.put none v=a:=rfl
structure BsInv(n i:Nat)(xs zs ts:List Int):Prop where
 lz:zs.length=2*n
 lt:ts.length=2*n
 dz:DG 18446744073709551616 (zs.take (2*i))
 dt:DG 18446744073709551616 ts
 hz: ∀j,2*i<=j+1->ts.getD j 0=0
 h0:ts.getD 0 0=0
 sum:val 18446744073709551616 (zs.take (2*i))+2*val 18446744073709551616 ts=val 18446744073709551616 (xs.take i)*val 18446744073709551616 (xs.take i)
theorem take_two{zs:List Int}{k:Nat}(h:k+1<zs.length)(hi lo:Int):((zs.set (k+1) hi).set k lo).take (k+2)=zs.take k++[lo,hi]:=by
 apply List.ext_getElem
 ·simp;omega
 ·intro j h1 h2
  simp at h1 h2;rw[List.getElem_take];by_cases h3:j<k
  ·rw[List.getElem_append_left (by simp;omega),List.getElem_set_ne (by omega),List.getElem_set_ne (by omega),List.getElem_take]
  ·rw[List.getElem_append_right (by simp;omega)]
   simp only[List.length_take];rcases(by omega:j=k\/j=k+1)with rfl|rfl
   ·simp[show min j zs.length=j by omega]
   ·simp[show min k zs.length=k by omega,List.getElem_set_ne,show k+1-k=1 by omega]
theorem BsInv.start{n:Nat}{xs L:List Int}(hn:1<=n)(hx:xs.length=n)(hd:DG 18446744073709551616 xs)(hL:L.length=2*n):BsInv n 1 xs ((L.set 1 (xs.getD 0 0*xs.getD 0 0/18446744073709551616)).set 0 (xs.getD 0 0*xs.getD 0 0%18446744073709551616)) (List.replicate (2*n) 0):=by
 have hb:=hd.getD (by omega) 0;have e:=take_two (zs:=L) (k:=0) (by omega) (xs.getD 0 0*xs.getD 0 0/18446744073709551616) (xs.getD 0 0*xs.getD 0 0%18446744073709551616);rw[Nat.zero_add,Nat.zero_add,List.take_zero,List.nil_append]at e;have hp0:0<=xs.getD 0 0*xs.getD 0 0:=Int.mul_nonneg hb.1 hb.1;have hp1:xs.getD 0 0*xs.getD 0 0<=18446744073709551615*18446744073709551615:=Int.mul_le_mul (by omega) (by omega) hb.1 (by omega);refine⟨by simp[hL],by simp,?_,DG.rep (by omega) _,fun j _=> ?_,?_,?_⟩
 ·rw[Nat.mul_one,e]
  exact DG.cons (by omega) (by omega) (DG.cons (by omega) (by omega) (DG.nil _))
 ·simp only[List.getD_eq_getElem?_getD,List.getElem?_replicate];split<;>rfl
 ·simp only[List.getD_eq_getElem?_getD,List.getElem?_replicate];split<;>rfl
 ·have e2:=val_take_succ' 18446744073709551616 xs 0
  rw[Nat.mul_one,e,val_rep,e2];simp only[List.take_zero,val_nil,val_cons,Int.pow_zero,Int.one_mul,Int.zero_add];omega
theorem BsInv.next{n i:Nat}{xs zs ts seg:List Int}{c d hi lo:Int}(h:BsInv n i xs zs ts)(hi1:1<=i)(hin:i<n)(hd:d=xs.getD i 0)(hd0:0<=d)(hd1:d<18446744073709551616)(hhi:hi=d*d/18446744073709551616)(hlo:lo=d*d%18446744073709551616)(hsl:seg.length=i)(hsd:DG 18446744073709551616 seg)(hc0:0<=c)(hc1:c<18446744073709551616)
 (hv:val 18446744073709551616 seg+18446744073709551616^i*c=val 18446744073709551616 ((ts.drop i).take i)+val 18446744073709551616 (xs.take i)*d+0):
 BsInv n (i+1) xs ((zs.set (2*i+1) hi).set (2*i) lo) ((spl ts i seg).set (2*i) c):=by
 obtain⟨lz,lt,dz,dt,hz,h0,sum⟩:=h;have hs:i+seg.length<=ts.length:=by omega
 have hl:=spl_len hs;have e:=take_two (zs:=zs) (k:=2*i) (by omega) hi lo;have hp0:0<=d*d:=Int.mul_nonneg hd0 hd0;have hp1:d*d<=18446744073709551615*18446744073709551615:=Int.mul_le_mul (by omega) (by omega) hd0 (by omega)
 have hold:(spl ts i seg).getD (2*i) 0=0:=by
  rw[spl_get hs,if_neg (by omega),if_neg (by omega)];exact hz _ (by omega)
 refine⟨by simp[lz],by simp[hl,lt],?_,(spl_dg dt hsd).set _ hc0 hc1,fun j hj=> ?_,?_,?_⟩
 ·rw[show 2*(i+1)=2*i+2 by omega,e]
  exact dz.append (DG.cons (by omega) (by omega) (DG.cons (by omega) (by omega) (DG.nil _)))
 ·rw[getD_set _ (by omega),spl_get hs,if_neg (by omega),if_neg (by omega)]
  exact hz j (by omega)
 ·rw[getD_set _ (by omega),spl_get hs,if_pos (by omega)]
  exact h0
 ·rw[show 2*(i+1)=2*i+2 by omega,e,val_append,List.length_take,Nat.min_eq_left (by omega),val_set' _ _ _ (by omega),hold,val_spl hs,hsl,val_take_succ' 18446744073709551616 xs i,<- hd]
  simp only[val_cons,val_nil];have hd2:lo+18446744073709551616*hi=d*d:=by omega
  have hp:(18446744073709551616:Int)^(2*i)=18446744073709551616^i*18446744073709551616^i:=by rw[<-Int.pow_add];congr 1;omega
  rw[hp];generalize(18446744073709551616:Int)^i=P at*;generalize val 18446744073709551616 (xs.take i)=X at*;generalize val 18446744073709551616 ts=V at*;generalize val 18446744073709551616 ((ts.drop i).take i)=V0 at*;generalize val 18446744073709551616 seg=V1 at*;generalize val 18446744073709551616 (zs.take (2*i))=Z at*;have e1:lo+18446744073709551616*(hi+18446744073709551616*0)=d*d:=by omega
  rw[e1];have e2:V1=V0+X*d-P*c:=by omega
  subst e2;grind
theorem BsInv.dbl{n:Nat}{xs zs ts seg:List Int}{c:Int}(h:BsInv n n xs zs ts)(hn:1<=n)(hsl:seg.length=2*n-2)(hsd:DG 18446744073709551616 seg)(hc0:0<=c)(hc1:c<2)
 (hv:val 18446744073709551616 seg+18446744073709551616^(2*n-2)*c=2*val 18446744073709551616 ((ts.drop 1).take (2*n-2))):
 DG 18446744073709551616 ((spl ts 1 seg).set (2*n-1) c)/\val 18446744073709551616 ((spl ts 1 seg).set (2*n-1) c)=2*val 18446744073709551616 ts:=by
 obtain⟨lz,lt,dz,dt,hz,h0,sum⟩:=h;have hs:1+seg.length<=ts.length:=by omega
 have hl:=spl_len hs
 have hold:(spl ts 1 seg).getD (2*n-1) 0=0:=by
  rw[spl_get hs,if_neg (by omega),if_neg (by omega)];exact hz _ (by omega)
 refine⟨(spl_dg dt hsd).set _ hc0 (by omega),?_⟩;rw[val_set' _ _ _ (by omega),hold,val_spl hs,hsl];have e1:=val_split 18446744073709551616 ts 1 (by omega);have e2:=val_split 18446744073709551616 (ts.drop 1) (2*n-2) (by rw[List.length_drop];omega);have e3:=val_take_succ' 18446744073709551616 ts 0
 have e4:val 18446744073709551616 ((ts.drop 1).drop (2*n-2))=0:=val_zeros _ (fun x hx=>by
  obtain⟨k,hk,rfl⟩:=List.mem_iff_getElem.1 hx;rw[List.length_drop,List.length_drop]at hk;have:=hz (1+(2*n-2+k)) (by omega);rw[getD_in (by omega)]at this;rw[List.getElem_drop,List.getElem_drop];exact this);rw[h0]at e3;simp only[List.take_zero,val_nil,Nat.zero_add]at e3;rw[e4]at e2;have hp:(18446744073709551616:Int)^(2*n-1)=18446744073709551616*18446744073709551616^(2*n-2):=by rw[show 2*n-1=(2*n-2)+1 by omega,Int.pow_succ,Int.mul_comm]
 rw[hp,Int.pow_one,Int.sub_zero];rw[Int.pow_one]at e1;generalize(18446744073709551616:Int)^(2*n-2)=P at*;generalize val 18446744073709551616 seg=V1 at*;generalize val 18446744073709551616 ((ts.drop 1).take (2*n-2))=V0 at*;have e5:V1=2*V0-P*c:=by omega
 subst e5;grind
theorem BsInv.fin{n:Nat}{xs zs ts us rs:List Int}{c:Int}(h:BsInv n n xs zs ts)(hx:xs.length=n)(hd:DG 18446744073709551616 xs)(hrl:rs.length=2*n)(hrd:DG 18446744073709551616 rs)(hc0:0<=c)
 (hu:val 18446744073709551616 us=2*val 18446744073709551616 ts)(hv:val 18446744073709551616 rs+18446744073709551616^(2*n)*c=val 18446744073709551616 zs+val 18446744073709551616 us):
 val 18446744073709551616 rs=val 18446744073709551616 xs*val 18446744073709551616 xs:=by
 have e:=h.sum;rw[List.take_of_length_le (by rw[h.lz];exact Nat.le_refl _),List.take_of_length_le (by omega)]at e;have hX0:=val_nonneg (by omega) hd;have hX1:=val_lt (by omega) hd;rw[hx]at hX1;have hr0:=val_nonneg (by omega) hrd;have hp:(18446744073709551616:Int)^(2*n)=18446744073709551616^n*18446744073709551616^n:=by rw[<-Int.pow_add];congr 1;omega
 have hlt:val 18446744073709551616 xs*val 18446744073709551616 xs<18446744073709551616^(2*n):=by
  rw[hp];have h1:val 18446744073709551616 xs*val 18446744073709551616 xs<=val 18446744073709551616 xs*18446744073709551616^n:=Int.mul_le_mul_of_nonneg_left (by omega) hX0;have hpp:=pow_pos_ (B:=18446744073709551616) (by omega) n;have h2:val 18446744073709551616 xs*18446744073709551616^n<18446744073709551616^n*18446744073709551616^n:=Int.mul_lt_mul_of_pos_right hX1 (by omega);omega
 have hc:c=0:=by
  rcases(by omega:c=0\/1<=c)with h|h
  ·exact h
  ·exfalso
   have hpp:=pow_pos_ (B:=18446744073709551616) (by omega) (2*n);have:18446744073709551616^(2*n)*1<=18446744073709551616^(2*n)*c:=Int.mul_le_mul_of_nonneg_left h (by omega);omega
 rw[hc]at hv;omega
end Go.Big
namespace Go.Proofs.YthecibbmbnpegaaGreatDoor
open Go.Big Go.RowKit
def ThrB(w:World):Prop:=w.cell? ⟨2,0,none⟩=some (.int .i64 12)
theorem addMulVVWWw_any(bz oz cz bx ox cx by_ oy cy n:Nat)(L xs ys:List Int)(m a:Int)(w:World)(hz:Wr 51 w bz oz L)(hL:L.length=n)(hnx:xs.length=n)(hsx:Go.Big.Src .u64 w bx ox xs)(hdx:DG 18446744073709551616 xs)(halx:Dj bx ox n bz oz n\/(bx=bz/\oz<=ox))
 (hny:ys.length=n)(hsy:Go.Big.Src .u64 w by_ oy ys)(hdy:DG 18446744073709551616 ys)(haly:Dj by_ oy n bz oz n\/(by_=bz/\oz<=oy))(hn9:n<=1000000000)(hm0:0<=m)(hm1:m<18446744073709551616)(ha0:0<=a)(ha1:a<18446744073709551616):
 Calls Tryz.prog 82 #[.slice (some ⟨bz,oz,none⟩) n cz,.slice (some ⟨bx,ox,none⟩) n cx,.slice (some ⟨by_,oy,none⟩) n cy,.int .u64 m,.int .u64 a] w (VecW w bz oz n (fun zs c=>0<=c/\c<18446744073709551616/\val 18446744073709551616 zs+18446744073709551616^n*c=val 18446744073709551616 xs+val 18446744073709551616 ys*m+a)):=by
 obtain⟨_,M,hM,hl⟩:=hz;exact(addMulVVWWo_any bz oz cz bx ox cx by_ oy cy n M xs ys m a w hM (by omega) hnx hsx hdx (NoTouch.of halx) hny hsy hdy (NoTouch.of haly) hn9 hm0 hm1 ha0 ha1).mono fun e w' h=>VecPost.w h hM (by omega)
theorem lsh1w_any(b o c n:Nat)(xs:List Int)(w:World)(hx:Wr 51 w b o xs)(hn:xs.length=n)(hd:DG 18446744073709551616 xs)(hc:n<=c)(hc9:c<=maxLen)(hn9:n<=1000000000):
 Calls Tryz.prog 77 #[.slice (some ⟨b,o,none⟩) n c,.slice (some ⟨b,o,none⟩) n c,.int .u64 1] w (VecW w b o n (fun zs c=>0<=c/\c<2/\val 18446744073709551616 zs+18446744073709551616^n*c=2*val 18446744073709551616 xs)):=by
 obtain⟨hs,M,hM,hl⟩:=hx
 have C:Calls Tryz.prog 112 #[.slice (some ⟨b,o,none⟩) n c,.slice (some ⟨b,o,none⟩) n c,.int .u64 1] w (VecW w b o n (fun zs c=>0<=c/\c<2/\val 18446744073709551616 zs+18446744073709551616^n*c=2*val 18446744073709551616 xs)):=
  (lshVU_any b o c b o c n 1 M xs w hM (by omega) hn hs hd (by omega) (.inr (.inl (Nat.le_refl _))) hc hc hc9 hn9).mono fun e w' ⟨zs,k,h1,h2,h3,h4,h5,h6,h7,h8⟩=>
    VecPost.w ⟨zs,k,h1,h2,h3,h4,h5,h6,by simpa using h7,by simpa using h8⟩ hM (by omega)
 have C:=κ C;clear hs hM hl hn hd;go_enter Tryz.func77,Tryz.ntmps77;go_wp2_with (go_at_call 112;refine(Hid.out C).mono ?_;rintro e w1 ⟨zs,c,rfl,h⟩;have H:=κ h;clear h);go_ret;exact⟨zs,c,rfl,H.out⟩
def BsS(bz oz b o n2:Nat)(b' i:Nat):Prop:=In1 bz oz n2 b' i\/In1 b o n2 b' i
def BsRel(bz oz b o n n2:Nat)(xs:List Int)(w1:World)(g:Nat)(iv:Value)(wr:World):Prop:=
 ∃(i:Nat) (zs ts:List Int),1<=i/\i<=n/\g=n-i/\iv= .int .i64 (i:Int)/\Wr 51 wr bz oz zs/\Wr 51 wr b o ts/\Fc 51 (BsS bz oz b o n2) w1 wr/\BsInv n i xs zs ts
def Sq6(bz oz n2:Nat)(hi lo:Int)(L:List Int)(w1 wx:World):Prop:=Wr 51 wx bz oz ((L.set 1 hi).set 0 lo)/\Fc 51 (In1 bz oz n2) w1 wx
def Sq13(b o n2 m n21:Nat)(ts:List Int)(w1 wx:World):Prop:=
 ∃(seg:List Int) (c:Int),Wr 51 wx b o ((spl ts 1 seg).set n21 c)/\Fc 51 (In1 b o n2) w1 wx/\seg.length=m/\DG 18446744073709551616 seg/\0<=c/\c<2/\val 18446744073709551616 seg+18446744073709551616^m*c=2*val 18446744073709551616 ((ts.drop 1).take m)
def SegP(b o n2 i m:Nat)(ts:List Int)(R:List Int->Int->Prop)(w1:World)(k:Int)(w5:World):Prop:=
 ∃seg:List Int,Wr 51 w5 b o (spl ts i seg)/\Fc 51 (In1 b o n2) w1 w5/\seg.length=m/\DG 18446744073709551616 seg/\R seg k
def SegC(b o n2 i m j:Nat)(ts:List Int)(R:List Int->Int->Prop)(w1:World)(e:Ending)(w5:World):Prop:=
 ∃k old,e= .returned (.int .u64 k)/\w5.cell? ⟨b,o+j,none⟩=some (.int .u64 old)/\w5.frozen? ⟨b,o+j,none⟩=false/\Hid (SegP b o n2 i m ts R w1 k w5)
theorem seg_of{b o n2 i m j:Nat}{ts:List Int}{R:List Int->Int->Prop}{w1 w5:World}{e:Ending}(hT:Wr 51 w1 b o ts)(hl:ts.length=n2)(him:i+m<=n2)(hj:j<n2)(h:VecW w1.drew b (o+i) m R e w5):SegC b o n2 i m j ts R w1 e w5:=by
 obtain⟨seg,k,rfl,hW,hF,hsl,hsd,hR⟩:=h;have hU:=hT.upd (i:=i) (zs:=seg) hW (by rw[hsl];exact hF.of_drew) (by rw[hsl,hl];omega);have hUl:=spl_len (L:=ts) (o:=i) (cs:=seg) (by rw[hsl,hl];omega);exact⟨k,_,rfl,hU.cell (j:=j) (by rw[hUl,hl];omega),hU.frozen (o+j),κ ⟨seg,hU,hF.of_drew.mono (fun b' j h _=>by unfold In1 at *;omega),hsl,hsd,hR⟩⟩
theorem seg_fin{b o n2 i m j:Nat}{ts:List Int}{R:List Int->Int->Prop}{w1 w5:World}{k:Int}(hl:ts.length=n2)(him:i+m<=n2)(hj:j<n2)(h:SegP b o n2 i m ts R w1 k w5):
 ∃seg:List Int,Wr 51 (w5.setCell ⟨b,o+j,none⟩ (.int .u64 k)) b o ((spl ts i seg).set j k)/\Fc 51 (In1 b o n2) w1 (w5.setCell ⟨b,o+j,none⟩ (.int .u64 k))/\seg.length=m/\DG 18446744073709551616 seg/\R seg k:=by
 obtain⟨seg,hU,hF,hsl,hsd,hR⟩:=h;have hUl:=spl_len (L:=ts) (o:=i) (cs:=seg) (by rw[hsl,hl];omega);have g2:=(Fc.set1 hU (j:=j) (by rw[hUl,hl];omega) k).mono (S':=In1 b o n2) (fun b' j h _=>by unfold In1 at *;omega);exact⟨seg,hU.set (by rw[hUl,hl];omega) k,hF.t g2,hsl,hsd,hR⟩
def BsqPost(s:Nat)(q:Option StkSt)(bz oz n2:Nat)(X:Int)(w:World)(e:Ending)(w':World):Prop:=
 ∃q' zs,e= .returned (.tuple #[])/\StkAt w' s q'/\StkLe w.heap.size q q'/\lenS q'=lenS q/\Wr 51 w' bz oz zs/\zs.length=n2/\DG 18446744073709551616 zs/\val 18446744073709551616 zs=X*X/\Fc 51 (fun b i=>StS s q b i\/In1 bz oz n2 b i) w w'
theorem basicSqr_any(s:Nat)(q:Option StkSt)(bz oz cz bx ox cx n:Nat)(L xs:List Int)(w:World)(hst:StkAt w s q)(hlen:lenS q<=100000000000)(hT:ThrB w)
 (hz:Wr 51 w bz oz L)(hL:L.length=2*n)(hx:Go.Big.Src .u64 w bx ox xs)(hbx:bx<w.heap.size)(hxl:xs.length=n)(hd:DG 18446744073709551616 xs)(hn1:1<=n)(hn9:n<=1000000)
 (hDj:Dj bx ox n bz oz (2*n))(oZ:Off (StS s q) bz oz (2*n))(oX:Off (StS s q) bx ox n)(hcx:n<=cx)(hcx9:cx<=maxLen)(hcz:2*n<=cz)(hcz9:cz<=9223372036854775807):
 Calls Tryz.prog 103 #[.pointer (some ⟨s,0,none⟩),.slice (some ⟨bz,oz,none⟩) (2*n) cz,.slice (some ⟨bx,ox,none⟩) n cx] w (BsqPost s q bz oz (2*n) (val 18446744073709551616 xs) w):=by
 obtain⟨n2,hn2⟩: ∃n2,n2=2*n:=⟨_,rfl⟩;rw[<-hn2]at hL hDj oZ hcz ⊢
 unfold maxLen at hcx9;have a1:2*(n:Int)=(n2:Int):=by omega
 by_cases hlt:n<12
 ·obtain⟨hz1,M,hM,hMl⟩:=id hz
  have C:=κ (basicMul_any bz oz n2 cz bx ox cx bx ox cx n n M xs xs w hM (by omega) (by omega) hcz hxl hx hd (by unfold Dj at hDj;unfold Apart;omega) hxl hx hd (by unfold Dj at hDj;unfold Apart;omega) (by omega) (by omega) hn9 hn9 (by omega) hcx hcx);have HM:=κ hM;have HST:=κ hst;have HN2:=κ hn2;have hltI:(n:Int)<12:=by omega
  unfold ThrB at hT;clear hst hz hz1 hM hx hd hDj oZ oX hn2 hxl;go_enter_defers Tryz.func103,Tryz.ntmps103;refine wp_mono ?_ bodyPostN_D;go_wp2_with (go_at_call 51;refine(Hid.out C).mono ?_;rintro e w1 ⟨zs,rfl,hr,hf,hzl,hzd,hzv⟩;have HR:=κ hr;have HF:=κ hf;have HZL:=κ hzl;have HZV:=κ hzv;clear hr hf hzl hzv);show Leaves _ _ _ _ _ _ _;have hzl:zs.length=n2:=by rw[HZL.out,HN2.out];omega
  have hfc:Fc 51 (In1 bz oz n2) w w1:=Fc.of_spl HF.out HM.out HR.out (by omega) (fun i h1 h2=>⟨rfl,h1,by omega⟩);have hst1:=HST.out.fc hfc (fun i hh=>HST.out.row_ne HM.out hh.1.symm) (fun p hp i hh=>by subst hp;exact HST.out.2.row_ne HM.out hh.1.symm);exact⟨_,results_none rfl _ _ _,q,zs,rfl,hst1,StkLe.refl _ _,rfl,Wr.of_row HR.out (by rw[spl_len (by omega)];omega) (fun j hj=>spl_get_in (by omega) hj),hzl,hzd,HZV.out,hfc.mono (fun _ _ h _=> .inr h)⟩
 ·have hnlt: ¬(n:Int)<12:=by omega
  have CS:=κ (save_any s q w hst);have CN:=κ (nat_any s n2 q w hst (by omega) (by omega) hlen);obtain⟨x0,hx0⟩: ∃x0,x0=xs.getD 0 0:=⟨_,rfl⟩;have x0b:=hd.getD (by omega) 0;rw[<-hx0]at x0b;obtain⟨x00,x01⟩:=x0b;obtain⟨hi0,hhi0⟩: ∃hi0,hi0=x0*x0/18446744073709551616:=⟨_,rfl⟩;obtain⟨lo0,hlo0⟩: ∃lo0,lo0=x0*x0%18446744073709551616:=⟨_,rfl⟩;have CM0:=κ (fun W=>mulWW_any x0 x0 W x00 x01 x00 x01);simp only[<-hhi0,<- hlo0]at CM0;have HI0:=κ hhi0;have LO0:=κ hlo0;clear hhi0 hlo0;have HN2:=κ hn2;have HZ:=κ hz;have HL:=κ hL;have HX:=κ hx;have HXL:=κ hxl;have HD:=κ hd;have HDJ:=κ hDj;have OZ:=κ oZ;have OX:=κ oX;have HX0:=κ hx0;have hbz:=hz.lt;have hn2b:n2<=2000000/\24<=n2:=by omega
  obtain⟨hn2b,hn2c⟩:=hn2b;unfold ThrB at hT;clear hst hn2 hz hL hx hxl hd hDj oZ oX hx0 hlt;go_enter_defers Tryz.func103,Tryz.ntmps103;refine wp_mono ?_ bodyPostN_D
  go_upto_region 5 with(first
   |(go_at_call 54;refine(Hid.out CS).mono ?_;rintro e w1 ⟨rfl,rfl⟩)
   |(go_at_call 55;refine(Hid.out CN).mono ?_;clear CN;rintro e w1 ⟨b,o,ct,q1,rfl,hct,hct9,hH,hst1,hle1,hl1,hl1',hf1,hnw,hoff⟩;have HH:=κ hH;have HST1:=κ hst1;have HLE1:=κ hle1;have HF1:=κ hf1;have HNW:=κ hnw;have HOFF:=κ hoff;clear hH hst1 hle1 hf1 hnw hoff));obtain⟨M1,hM1,hM1l⟩:=HH.out;have HM1:=κ hM1;clear hM1;unfold maxLen at hct9;go_wp2_with (refine wp_clear rfl (.tmp 26) _ rfl .u64 51 8 ty_big (some ⟨b,o,none⟩) b o n2 ct rfl (fun _=>rfl) M1 HM1.out (by omega) ?_;intro w2 row2 f2;have HR2:=κ row2;have HF2:=κ f2;clear row2 f2);have hZ1:=HZ.out.fc HF1.out (by rw[HL.out];exact OZ.out);have hX1:=HX.out.fc HF1.out (by rw[HXL.out];exact OX.out)
  have DB: ∀bx ox nx,bx<w.heap.size->Off (StS s q) bx ox nx->Dj bx ox nx b o n2:=by
   intro bx ox nx hlt hof;unfold Dj;by_cases e:bx=b
   ·subst e
    by_cases h1:ox+nx<=o
    ·omega
    ·by_cases h2:o+n2<=ox
     ·omega
     ·by_cases h3:nx=0\/n2=0
      ·omega
      ·exact absurd (HNW.out hlt (max ox o) (by omega) (by omega)) (hof (max ox o) (by omega) (by omega))
   ·exact .inl e
  have HDBZ:=κ (DB bz oz n2 hbz OZ.out);have HDBX:=κ (DB bx ox n hbx OX.out);have hrl:(List.replicate n2 (0:Int)).length=n2:=List.length_replicate;have hrs:(spl M1 o (List.replicate n2 0)).length=M1.length:=spl_len (by rw[hrl];omega);have hT2:Wr 51 w2 b o (List.replicate n2 0):=Wr.of_row HR2.out (by rw[hrs,hrl];omega) (fun j hj=>spl_get_in (by omega) hj);have hF12:Fc 51 (In1 b o n2) w1 w2:=Fc.of_spl HF2.out HM1.out HR2.out (by rw[hrl];omega) (fun i h1 h2=>⟨rfl,h1,by rw[hrl]at h2;exact h2⟩);have hZ2:=hZ1.fc hF12 (by rw[HL.out];exact HDBZ.out.off);have hX2:=hX1.fc hF12 (by rw[HXL.out];exact HDBX.out.off);have cx0:=hX2 0 (by rw[HXL.out];omega);rw[<-HX0.out]at cx0;have cz0:=hZ2.cell (j:=0) (by rw[HL.out];omega);have cz1:=hZ2.cell (j:=1) (by rw[HL.out];omega);have fz0:=hZ2.frozen oz;have fz1:=hZ2.frozen (oz+1);obtain⟨old0,hold0⟩: ∃v,v=L.getD 0 0:=⟨_,rfl⟩;obtain⟨old1,hold1⟩: ∃v,v=L.getD 1 0:=⟨_,rfl⟩;rw[<-hold0,Nat.add_zero]at cz0;rw[<-hold1]at cz1;rw[Nat.add_zero]at cx0;have HT2:=κ hT2;have HF12:=κ hF12;have HZ2:=κ hZ2;have HX2:=κ hX2;have h1n2:(1:Int)<(n2:Int):=by omega
  have h0n2:(0:Int)<(n2:Int):=by omega
  have h0n:(0:Int)<(n:Int):=by omega
  clear hZ1 hX1 DB hT2 hF12 hZ2 hX2 hold0 hold1;rw[put_none];go_cut [7]from 27 to 40 (fun s7 wx=>s7= .slice (some ⟨b,o,none⟩) n2 ct/\Sq6 bz oz n2 hi0 lo0 L w2 wx)
  case first=>as_aux_lemma=>
   go_region_with (go_at_call 102;refine(CM0.out _).mono ?_;rintro e w3 ⟨rfl,rfl⟩)
   all_goals (
    go_wp2_with fail;go_meet;have h1:=HZ2.out.set (j:=1) (by rw[HL.out];omega) hi0;have h2:=h1.set (j:=0) (by rw[List.length_set,HL.out];omega) lo0;have g1:=(Fc.set1 HZ2.out (j:=1) (by rw[HL.out];omega) hi0).mono (S':=In1 bz oz n2) (fun b' i h _=>by unfold In1 at *;omega);have g2:=(Fc.set1 h1 (j:=0) (by rw[List.length_set,HL.out];omega) lo0).mono (S':=In1 bz oz n2) (fun b' i h _=>by unfold In1 at *;omega);exact⟨rfl,h2.drew,(g1.t g2).to_drew⟩)
  case rest=>
   clear cx0 cz0 cz1 fz0 fz1 CM0;obtain⟨rfl,hZ3,hF3⟩:=hcut;obtain⟨w3,hw3⟩: ∃w3,w3=wc:=⟨_,rfl⟩;subst hw3;have HZ3:=κ hZ3;have HF3:=κ hF3;have HT3:=κ (HT2.out.fc hF3 (by rw[hrl];exact HDBZ.out.symm.off));have HX3:=κ (HX2.out.fc hF3 (by rw[HXL.out];exact HDJ.out.off))
   have INV:=κ (show BsInv n 1 xs ((L.set 1 hi0).set 0 lo0) (List.replicate n2 0)by
    rw[HI0.out,LO0.out,HX0.out,HN2.out];exact BsInv.start hn1 HXL.out HD.out (by rw[HL.out,HN2.out]));clear hZ3 hF3 hrl hrs h1n2 h0n2 h0n;go_wp2_with fail;go_loopg [8] (n-1) (BsRel bz oz b o n n2 xs w3);case atStart=>exact⟨1,_,_,Nat.le_refl _,hn1,rfl,rfl,HZ3.out,HT3.out,Fc.refl _ _ _,INV.out⟩
   case round=>
    obtain⟨i,zs,ts,hi1,hin,rfl,rfl,hZc,hTc,hFc,hI⟩:=hrel;have HZc:=κ hZc;have HTc:=κ hTc;have HFc:=κ hFc;have HI:=κ hI;have LZ:=κ (show zs.length=n2 by rw[hI.lz,HN2.out]);have LT:=κ (show ts.length=n2 by rw[hI.lt,HN2.out]);have hXc:=HX3.out.fc hFc (by rw[HXL.out];exact fun j h1 h2 hh=>hh.elim (HDJ.out.off j h1 h2) (HDBX.out.off j h1 h2));have HXc:=κ hXc;clear hZc hTc hFc hI INV;by_cases h1:i<n
    ·obtain⟨i2,hi2⟩: ∃i2,i2=2*i:=⟨_,rfl⟩
     obtain⟨i21,hi21⟩: ∃i21,i21=2*i+1:=⟨_,rfl⟩;have a3:2*(i:Int)=(i2:Int):=by omega
     have a4:(i2:Int)+1=(i21:Int):=by omega
     have hi21n:i21<n2:=by have:=HN2.out;omega
     have hi21nI:(i21:Int)<(n2:Int):=by omega
     have hi2nI:(i2:Int)<(n2:Int):=by omega
     obtain⟨d,hd⟩: ∃d,d=xs.getD i 0:=⟨_,rfl⟩;have db:=HD.out.getD (by omega) i;rw[<-hd]at db;obtain⟨d0,d1⟩:=db;obtain⟨hi,hhi⟩: ∃hi,hi=d*d/18446744073709551616:=⟨_,rfl⟩;obtain⟨lo,hlo⟩: ∃lo,lo=d*d%18446744073709551616:=⟨_,rfl⟩;have CM:=κ (mulWW_any d d wr d0 d1 d0 d1);rw[<-hhi,<- hlo]at CM;have cxd:=hXc i (by rw[HXL.out];exact h1);rw[<-hd]at cxd;have cz1:=HZc.out.cell (j:=i21) (by rw[LZ.out];exact hi21n);have cz0:=HZc.out.cell (j:=i2) (by rw[LZ.out];omega);have fz1:=HZc.out.frozen (oz+i21);have fz0:=HZc.out.frozen (oz+i2);obtain⟨old0,hold0⟩: ∃v,v=zs.getD i2 0:=⟨_,rfl⟩;obtain⟨old1,hold1⟩: ∃v,v=zs.getD i21 0:=⟨_,rfl⟩;rw[<-hold0]at cz0;rw[<-hold1]at cz1;have hne: ¬i21=i2:=by omega
     have hne': ¬i2=i21:=by omega
     have HDD:=κ hd;have HHI:=κ hhi;have HLO:=κ hlo;have HI2:=κ hi2;have HI21:=κ hi21;clear hd hhi hlo hold0 hold1 hXc hi2 hi21;go_upto_region 11 with fail;go_cut [9]from 41 to 83 (fun s9 wx=>s9= .int .u64 d/\Wr 51 wx bz oz ((zs.set i21 hi).set i2 lo)/\Fc 51 (In1 bz oz n2) wr wx)
     case first=>as_aux_lemma=>
      go_wp2_with (go_at_call 102;refine(Hid.out CM).mono ?_;rintro e w' ⟨rfl,rfl⟩);go_meet;have h1:=HZc.out.set (j:=i21) (by rw[LZ.out];omega) hi;have h2:=h1.set (j:=i2) (by rw[List.length_set,LZ.out];omega) lo;have g1:=(Fc.set1 HZc.out (j:=i21) (by rw[LZ.out];omega) hi).mono (S':=In1 bz oz n2) (fun b' i h _=>by unfold In1 at *;omega);have g2:=(Fc.set1 h1 (j:=i2) (by rw[List.length_set,LZ.out];omega) lo).mono (S':=In1 bz oz n2) (fun b' i h _=>by unfold In1 at *;omega);exact⟨rfl,h2,g1.t g2⟩
     case rest=>
      obtain⟨rfl,hZ4,hF4⟩:=hcut;obtain⟨w4,hw4⟩: ∃w4,w4=wc:=⟨_,rfl⟩;subst hw4;have hT4:=HTc.out.fc hF4 (by rw[LT.out];exact HDBZ.out.symm.off);have hX4:=HXc.out.fc hF4 (by rw[HXL.out];exact HDJ.out.off);have hii:i+i<=n2:=by have:=HN2.out;omega
      have hli:((ts.drop i).take i).length=i:=by rw[List.length_take,List.length_drop,LT.out];omega
      have hlx:(xs.take i).length=i:=by rw[List.length_take,HXL.out];omega
      have hTs:=hT4.sub i i (by rw[LT.out];exact hii);have CA:=κ (addMulVVWWw_any b (o+i) (ct-i) b (o+i) (ct-i) bx ox cx i ((ts.drop i).take i) ((ts.drop i).take i) (xs.take i) d 0 w4.drew hTs.drew hli hli hTs.drew.src ((HI.out.dt.drop i).take i) (.inr ⟨rfl,Nat.le_refl _⟩) hlx (Src.dr (hX4.take_ i)) (HD.out.take i) (.inl ((HDBX.out.subr (i':=i) (m':=i) hii).sub1 (by omega) (Nat.le_refl _))) (by omega) d0 d1 (by omega) (by omega));have HZ4:=κ hZ4;have HF4:=κ hF4;have HT4:=κ hT4;clear hZ4 hF4 hT4 hX4 hii hli hlx hTs cxd cz1 cz0 fz1 fz0 CM hne hne' a4 hi21nI;have hnct: ¬ct=i:=by omega
      have hsub:i2-i=i:=by have:=HI2.out;omega
      have hw2a:IntKind.i64.wrap (2*(i:Int))=(i2:Int):=by rw[IntKind.wrap_i64];omega
      have hw2b:IntKind.i64.wrap (i2:Int)=(i2:Int):=by rw[IntKind.wrap_i64];omega
      have hb1:(i:Int)<=(i2:Int):=by omega
      have hb2:(i2:Int)<=(ct:Int):=by omega
      have hb3:(i:Int)<=(cx:Int):=by omega
      go_upto_region 12 with fail;have CA2:=κ ((Hid.out CA).mono fun e w' h=>seg_of (n2:=n2) (j:=i2) HT4.out LT.out (by have:=HN2.out;omega) (by omega) h)
      have HG:Hid (∀wf k,(∃seg:List Int,Wr 51 wf b o ((spl ts i seg).set i2 k)/\Fc 51 (In1 b o n2) w4 wf/\seg.length=i/\DG 18446744073709551616 seg/\(0<=k/\k<18446744073709551616/\val 18446744073709551616 seg+18446744073709551616^i*k=val 18446744073709551616 ((ts.drop i).take i)+val 18446744073709551616 (xs.take i)*d+0))->BsRel bz oz b o n n2 xs w3 (n-(i+1)) (.int .i64 ((i:Int)+1)) wf):=κ (fun wf k ⟨seg,hT5,hF5,hsl,hsd,hk0,hk1,hv⟩=>by
       have hN:=HI.out.next (c:=k) hi1 h1 HDD.out d0 d1 HHI.out HLO.out hsl hsd hk0 hk1 hv;rw[<-HI21.out,<- HI2.out]at hN;have hZ5:=HZ4.out.fc hF5 (by rw[List.length_set,List.length_set,LZ.out];exact HDBZ.out.off);exact⟨i+1,_,_,by omega,by omega,rfl,by go_num,hZ5,hT5,(HFc.out.t (HF4.out.mono (S':=BsS bz oz b o n2) (fun _ _ h _=> .inl h))).t (hF5.mono (fun _ _ h _=> .inr h)),hN⟩);have HS2:=κ (show i+i<=n2/\i2<n2 by have:=HN2.out;omega);clear CA HI HZ4 HF4 HT4 HFc HZc HTc HXc HX3 HX2 HT3 HZ3 HF3 HZ2 HT2 HF12 HDD HHI HLO HI2 HI21 HDBZ HDBX HR2 HF2 HM1 HH HNW HOFF HST1 HLE1 HF1 HI0 LO0 HX0 HD HDJ OZ OX HZ HX HL HXL LZ d0 d1 hi21n hi2nI hbx hlen hT CS hl1 hl1' hcx9 hcz9 hM1l;go_region_with (go_at_call 82;refine(Hid.out CA2).mono ?_;rintro e w5 ⟨k,old,rfl,ct2,ft2,H⟩)
      all_goals (
       go_wp2_with fail;go_roundg (n-(i+1));case measure=>omega
       case rel=>exact HG.out _ _ (seg_fin LT.out HS2.out.1 HS2.out.2 H.out))
    ·have HE:=κ (show i=n by omega)
     have hniI: ¬(i:Int)<(n:Int):=by omega
     have hI:=HI.out;rw[HE.out]at hI;have HIN:=κ hI;obtain⟨n21,hn21⟩: ∃n21,n21=n2-1:=⟨_,rfl⟩;obtain⟨m,hm⟩: ∃m,m=n2-2:=⟨_,rfl⟩;have a5:(n2:Int)-1=(n21:Int):=by omega
     have hTs:=HTc.out.sub 1 m (by rw[LT.out];omega);have hli:((ts.drop 1).take m).length=m:=by rw[List.length_take,List.length_drop,LT.out];omega
     have CL:=κ (lsh1w_any b (o+1) (ct-1) m ((ts.drop 1).take m) wr.drew hTs.drew hli ((HIN.out.dt.drop 1).take m) (by omega) (by unfold maxLen;omega) (by omega));have HM:=κ hm;have HN21:=κ hn21;have hnct: ¬ct=1:=by omega
     have hsub:n21-1=m:=by omega
     have hw1:IntKind.i64.wrap (2*(n:Int))=(n2:Int):=by rw[IntKind.wrap_i64];omega
     have hw2:IntKind.i64.wrap (n2:Int)=(n2:Int):=by rw[IntKind.wrap_i64];omega
     have hw3:IntKind.i64.wrap ((n2:Int)-1)=(n21:Int):=by rw[IntKind.wrap_i64];omega
     have hw4:IntKind.i64.wrap (n21:Int)=(n21:Int):=by rw[IntKind.wrap_i64];omega
     have hb1:(1:Int)<=(n21:Int):=by omega
     have hb2:(n21:Int)<=(ct:Int):=by omega
     have hb3:(n21:Int)<(n2:Int):=by omega
     have hb4:n21<n2:=by omega
     have hb5:m+2=n2:=by omega
     clear hI hTs hli hm hn21 hXc;go_upto_region 13 with fail;go_cut [7]from 84 to 99 (fun s7 wx=>s7= .slice (some ⟨b,o,none⟩) n2 ct/\Sq13 b o n2 m n21 ts wr wx)
     case first=>
      have CL2:=κ ((Hid.out CL).mono fun e w' h=>seg_of (n2:=n2) (j:=n21) HTc.out LT.out (by omega) (by omega) h);clear CL HIN HI HFc HZc HX3 HX2 HT3 HZ3 HF3 HZ2 HT2 HF12 HDBZ HDBX HR2 HF2 HM1 HH HNW HOFF HST1 HLE1 HF1 HI0 LO0 HX0 HD HDJ OZ OX HZ HX HL HXL LZ hbx hlen hT CS hl1 hl1' hcx9 hcz9 hM1l HE HM HN21;go_region_with (go_at_call 77;refine(Hid.out CL2).mono ?_;rintro e w6 ⟨k,old,rfl,ct2,ft2,H⟩)
      all_goals (
       go_wp2_with fail;go_meet;obtain⟨seg,h1,h2,h3,h4,h5,h6,h7⟩:=seg_fin LT.out (by omega) hb4 H.out;exact⟨rfl,seg,k,h1,h2,h3,h4,h5,h6,h7⟩)
     case rest=>
      clear CL hw1 hw2 hw3 hw4 hsub hnct;obtain⟨rfl,seg,k,hT6,hF6,hsl,hsd,hk0,hk1,hv⟩:=hcut;obtain⟨w6,hw6⟩: ∃w6,w6=wc:=⟨_,rfl⟩;subst hw6;have hm2:m=2*n-2:=by rw[HM.out,HN2.out]
      have hD:=HIN.out.dbl (c:=k) hn1 (by rw[hsl,hm2]) hsd hk0 hk1 (by rw[<-hm2];exact hv);rw[<-HN2.out,<- HN21.out]at hD;obtain⟨hud,huv⟩:=hD;have hUl:((spl ts 1 seg).set n21 k).length=n2:=by rw[List.length_set,spl_len (by rw[hsl,LT.out];omega),LT.out]
      have hZ6:=HZc.out.fc hF6 (by rw[LZ.out];exact HDBZ.out.off);have hdz:=HIN.out.dz;rw[List.take_of_length_le (by rw[HIN.out.lz];exact Nat.le_refl _)]at hdz;have CV:=κ (addVVw_any bz oz cz bz oz cz b o ct n2 zs zs ((spl ts 1 seg).set n21 k) w6 hZ6 LZ.out LZ.out hZ6.src hdz (.inr ⟨rfl,Nat.le_refl _⟩) hUl hT6.src hud (.inl HDBZ.out.symm) (by omega));have HT6:=κ hT6;have HF6:=κ hF6;have HUV:=κ huv;clear hT6 hF6 hsl hsd hv hud huv hUl hZ6 hdz hm2;go_wp2_with (go_at_call 43;refine(Hid.out CV).mono ?_;rintro e w7 ⟨rs,c,rfl,hR,hF,hrl,hrd,hc0,hc1,hv⟩;have HR7:=κ hR;have HF7:=κ hF;have HRL:=κ hrl;have HRD:=κ hrd;have HRV:=κ hv;clear hR hF hrl hrd hv CV);show Leaves _ _ _ _ _ _ _;have hall:Fc 51 (BsS bz oz b o n2) w1 w7:=((((HF12.out.mono (S':=BsS bz oz b o n2) (fun _ _ h _=> .inr h)).t (HF3.out.mono (S':=BsS bz oz b o n2) (fun _ _ h _=> .inl h))).t HFc.out).t (HF6.out.mono (S':=BsS bz oz b o n2) (fun _ _ h _=> .inr h))).t (HF7.out.mono (S':=BsS bz oz b o n2) (fun _ _ h _=> .inl h));obtain⟨_,LZ1,hLZ1,_⟩:=HZ.out.fc HF1.out (by rw[HL.out];exact OZ.out)
      have hst3:=HST1.out.fc hall (fun i hh=>by
       rcases hh with hh|hh
       ·exact HST1.out.row_ne hLZ1 hh.1.symm
       ·exact HST1.out.row_ne HM1.out hh.1.symm) (fun p hp i hh=>by
       subst hp;rcases hh with hh|hh
       ·exact HST1.out.2.row_ne hLZ1 hh.1.symm
       ·exact HST1.out.2.row_ne HM1.out hh.1.symm);have HST3:=κ hst3;clear hst3;refine leaves_cons (f:=53) (args:= #[.pointer (some ⟨s,0,none⟩),.int .i64 ((lenS q:Nat):Int)]) (by simp) (by simp[go_sem]) ?_;refine(restore_deferred s (lenS q) q1 .returning _ HST3.out (fun p hp=>by subst hp;exact Nat.le_trans (show lenS q<=p.len from hl1) HST3.out.2.2.2.1)).mono ?_;rintro e u' w'' ⟨rfl,rfl,hst4,hf4⟩;refine⟨_,results_none rfl _ _ _,?_⟩;have hl4:lenS (resS (lenS q) q1)=lenS q:=lenS_res (fun h=>by subst h;exact Nat.le_zero.1 hl1)
      have hfw:=(HF1.out.mono (S':=fun b i=>StS s q b i\/In1 bz oz n2 b i) (fun _ _ h _=> .inl h)).trans hall (fun b' i hh hlt=>by
       rcases hh with hh|hh
       ·exact .inr hh
       ·obtain⟨rfl,h1,h2⟩:=hh
        exact .inl (HNW.out hlt i h1 (by omega)));have hfw2:=hfw.trans hf4 (fun b' i hh hlt=> .inl (HLE1.out.sub hl1 b' i hh hlt));have hRf:=HR7.out.fc hf4 (by rw[HRL.out];exact fun i h1 h2 hh=>OZ.out i h1 h2 (HLE1.out.sub hl1 bz i hh hbz));exact⟨resS (lenS q) q1,rs,rfl,hst4,HLE1.out.res,hl4,hRf,HRL.out,HRD.out,HIN.out.fin HXL.out HD.out (by rw[HRL.out,HN2.out]) HRD.out hc0 HUV.out (by rw[<-HN2.out];exact HRV.out),hfw2⟩
end Go.Proofs.YthecibbmbnpegaaGreatDoor
