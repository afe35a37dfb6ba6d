/-
  Part 26 of the proof of the law FnExpSum: XMontR, XMoA. Conditions: those of each statement.
-/
import Derived.Test.YthecibbmbnpegaaGreatDoorK25
import Derived.Laws.Bits64
set_option linter.unusedSimpArgs false
set_option linter.unusedVariables false
set_option maxRecDepth 100000
set_option maxHeartbeats 4000000
namespace Go.Big
def DgN(k:Nat)(L:List Int):Prop:= ∀j,j<k->0<=L.getD j 0/\L.getD j 0<18446744073709551616
theorem getD_mem{L:List Int}{d:Int}(h:d∈L): ∃j,j<L.length/\d=L.getD j 0:=by
 obtain⟨j,hj,e⟩:=List.getElem_of_mem h;exact⟨j,hj,by rw[getD_in hj];exact e.symm⟩
theorem DgN.win{k i n:Nat}{L:List Int}(h:DgN k L)(hi:i+n<=k):DG 18446744073709551616 ((L.drop i).take n):=fun d hd=>by
 obtain⟨j,hj,rfl⟩:=getD_mem hd;rw[List.length_take,List.length_drop]at hj;rw[getD_drop_take (by omega)];exact h (i+j) (by omega)
theorem DgN.spl{k o:Nat}{L zs:List Int}(h:DgN k L)(hd:DG 18446744073709551616 zs)(hl:o+zs.length<=L.length):DgN k (spl L o zs):=fun j hj=>by
 rw[spl_get hl];split
 ·exact h j hj
 ·split
  ·exact hd.getD (by omega) _
  ·exact h j hj
theorem DgN.set{k i:Nat}{L:List Int}(h:DgN k L){v:Int}(hi:i<L.length)(h0:0<=v)(h1:v<18446744073709551616):DgN k (L.set i v):=fun j hj=>by
 by_cases e:j=i
 ·subst e;simp[List.getD_eq_getElem?_getD,List.getElem?_set,hi];exact⟨h0,h1⟩
 ·have:(L.set i v).getD j 0=L.getD j 0:=by simp[List.getD_eq_getElem?_getD,List.getElem?_set,Ne.symm e]
  rw[this];exact h j hj
theorem DgN.zero{k:Nat}{L:List Int}(hl:k<=L.length):DgN k (Go.Big.spl L 0 (List.replicate k 0)):=fun j hj=>by
 rw[spl_get (by rw[List.length_replicate];omega),if_neg (by omega),if_pos (by rw[List.length_replicate];omega)];simp[List.getD_eq_getElem?_getD,List.getElem?_replicate,hj]
theorem zero_win{n:Nat}{L:List Int}(hl:n*2<=L.length):val 18446744073709551616 ((Go.Big.spl L 0 (List.replicate (n*2) 0)).take n)=0:=by
 unfold Go.Big.spl;rw[List.take_zero,List.nil_append,List.take_append_of_le_length (by rw[List.length_replicate];omega),List.take_replicate,val_rep]
end Go.Big
namespace Go.Proofs.YthecibbmbnpegaaGreatDoor
open Go.Big Go.RowKit
def SlX(b0:Nat)(w:World)(v:Value)(xs:List Int):Prop:=
 ∃A cap,v= .slice A xs.length cap/\xs.length<=cap/\cap<=maxLen/\(0<xs.length-> ∃b off,A=some ⟨b,off,none⟩/\b<w.heap.size/\b≠b0/\Go.Big.Src .u64 w b off xs)
def RcO(w:World)(A:Option Addr)(b c:Nat)(L:List Int)(n:Nat):Prop:=c<=maxLen/\(c<n\/(A=some ⟨b,0,none⟩/\Row .u64 51 w b L/\c<=L.length))
def MadeO(b c n:Nat)(L:List Int)(w:World)(e:Ending)(w':World):Prop:=
 ∃b' c' L',e= .returned (.slice (some ⟨b',0,none⟩) n c')/\Row .u64 51 w' b' L'/\n<=c'/\c'<=L'.length/\c'<=maxLen/\Fr [] w w'/\((b'=b/\c'=c/\L'=L/\n<=c/\w=w')\/(c<n/\c'<=n+4/\w.heap.size<=b'))
theorem makeO_any(A:Option Addr)(l b c n:Nat)(L:List Int)(w:World)(h:RcO w A b c L n)(hl:l<=c)(hn0:0<n)(hn:n<=1000000000):Calls Tryz.prog 42 #[.slice A l c,.int .i64 (n:Int)] w (MadeO b c n L w):=by
 obtain⟨hc,h⟩:=h;unfold maxLen at hc;by_cases h0:n<=c
 ·obtain⟨rfl,hZ,hl'⟩:=h.resolve_left (by omega)
  have HZ:=κ hZ;have HL:=κ hl';clear hZ hl' h;go_enter Tryz.func42,Tryz.ntmps42;go_wp2_with fail;go_ret;exact⟨b,c,L,rfl,HZ.out,h0,HL.out,by unfold maxLen;omega,Fr.refl _ _,.inl ⟨rfl,rfl,rfl,h0,rfl⟩⟩
 ·clear h
  by_cases h1:n=1
  ·subst h1
   go_enter Tryz.func42,Tryz.ntmps42;go_wp2_with (at_make;refine wp_mkc rfl (.const (.int .i64 1)) (.const (.int .i64 1)) _ rfl .u64 51 8 ty_big (by omega) 1 1 rfl rfl (by omega) (by omega) ?_;intro g w1 hg row f);go_ret;exact⟨g,1,_,rfl,row,by omega,by simp,by unfold maxLen;omega,f,.inr ⟨by omega,by omega,hg⟩⟩
  ·have hw:IntKind.i64.wrap ((n:Int)+4)=((n+4:Nat):Int):=by rw[IntKind.wrap_i64];omega
   have h1':((n:Int)==1)=false:=by rw[beq_eq_false_iff_ne];omega
   go_enter Tryz.func42,Tryz.ntmps42;go_wp2_with (at_make;refine wp_mkc rfl (.tmp 15) (.tmp 17) _ rfl .u64 51 8 ty_big (by omega) n (n+4) rfl (by first|rfl|(show Value.int IntKind.i64 _=_;congr 1)) (by omega) (by omega) ?_;intro g w1 hg row f);go_ret;exact⟨g,n+4,_,rfl,row,by omega,by simp,by unfold maxLen;omega,f,.inr ⟨by omega,by omega,hg⟩⟩
def MoRelO(X M:Int)(ys:List Int)(z ll n:Nat)(w1:World)(g:Nat)(cv iv:Value)(wr:World):Prop:=
 ∃(i:Nat) (k:Int) (Z:List Int) (U:Int),i<=n/\g=n-i/\iv= .int .i64 i/\cv= .int .u64 k/\(k=0\/k=1)/\Row .u64 51 wr z Z/\Fr [z] w1 wr/\Z.length=ll/\DgN (n*2) Z/\0<=U/\U<18446744073709551616^i/\
  (val 18446744073709551616 ((Z.drop i).take n)+18446744073709551616^n*k)*18446744073709551616^i=X*val 18446744073709551616 (ys.take i)+M*U
def MontO(w:World)(b0 c0 n:Nat)(M P:Int)(e:Ending)(w':World):Prop:=
 ∃b c L zs,e= .returned (.slice (some ⟨b,0,none⟩) n c)/\Row .u64 51 w' b L/\n*2<=c/\c<=L.length/\c<=maxLen/\L.take n=zs/\zs.length=n/\DG 18446744073709551616 zs/\(M∣val 18446744073709551616 zs*18446744073709551616^n-P)/\(0<M->val 18446744073709551616 zs*18446744073709551616^n<P+M*18446744073709551616^n)/\Fr [b] w w'/\((b=b0/\c=c0/\n*2<=c0)\/(c0<n*2/\c<=n*2+4/\w.heap.size<=b))
theorem montR_any(Az:Option Addr)(lz b0 c0:Nat)(L0:List Int)(vx vy vm:Value)(xs ys ms:List Int)(n:Nat)(k:Int)(w:World)(hO:RcO w Az b0 c0 L0 (n*2))(hlz:lz<=c0)(hx:SlX b0 w vx xs)(hy:SlX b0 w vy ys)(hm:SlX b0 w vm ms)(hdx:DG 18446744073709551616 xs)(hdy:DG 18446744073709551616 ys)(hdm:DG 18446744073709551616 ms)
 (hnx:xs.length=n)(hny:ys.length=n)(hnm:ms.length=n)(hn0:0<n)(hn9:n<=100000)(hk0:0<=k)(hk1:k<18446744073709551616)(hk:(18446744073709551616:Int)∣ms.getD 0 0*k+1):
 Calls Tryz.prog 94 #[.slice Az lz c0,vx,vy,vm,.int .u64 k,.int .i64 (n:Int)] w (MontO w b0 c0 n (val 18446744073709551616 ms) (val 18446744073709551616 xs*val 18446744073709551616 ys)):=by
 obtain⟨A,cx,rfl,hcx,hmx,hsx⟩:=hx;obtain⟨B,cy,rfl,hcy,hmy,hsy⟩:=hy;obtain⟨C,cm,rfl,hcm,hmm,hsm⟩:=hm;obtain⟨bx,ox,rfl,hbx,hbx0,sx⟩:=hsx (by omega);obtain⟨by_,oy,rfl,hby,hby0,sy⟩:=hsy (by omega);obtain⟨bm,om,rfl,hbm,hbm0,sm⟩:=hsm (by omega);unfold maxLen at hmx hmy hmm;have HSX:=κ sx;have HSY:=κ sy;have HSM:=κ sm;have HDX:=κ hdx;have HDY:=κ hdy;have HDM:=κ hdm;have HNX:=κ hnx;have HNY:=κ hny;have HNM:=κ hnm;have HK:=κ hk;rw[hnx]at hcx ⊢
 rw[hny]at hcy ⊢
 rw[hnm]at hcm ⊢
 have HM:=κ (makeO_any Az lz b0 c0 (n*2) L0 w hO hlz (by omega) (by omega));have hc0:=hO.1;unfold maxLen at hc0;have hw2:IntKind.i64.wrap ((n:Int)*2)=((n*2:Nat):Int):=by rw[IntKind.wrap_i64];omega
 have hnn:((n:Int)==(n:Int))=true:=by simp
 clear hsx hsy hsm sx sy sm hdx hdy hdm hnx hny hnm hk hO;go_enter Tryz.func94,Tryz.ntmps94
 go_wp2_with (first
  |(go_at_call 42;refine(HM.out).mono ?_;rintro e w1 ⟨z,c,L1,rfl,row,hc1,hcl,hc2,f,hzz⟩;obtain⟨ll,hll⟩: ∃ll,ll=L1.length:=⟨_,rfl⟩;rw[<-hll]at hcl;have HLL:=κ hll;have HZZ:=κ hzz;have hzx:bx≠z:=(by rcases hzz with⟨rfl,_⟩|⟨_,_,h⟩;exact hbx0;omega);have hzy:by_≠z:=(by rcases hzz with⟨rfl,_⟩|⟨_,_,h⟩;exact hby0;omega);have hzm:bm≠z:=(by rcases hzz with⟨rfl,_⟩|⟨_,_,h⟩;exact hbm0;omega);unfold maxLen at hc2;have HROW:=κ row;clear row hll hzz)
  |(refine wp_clear rfl (.tmp 42) _ rfl .u64 51 8 ty_big (some ⟨z,0,none⟩) z 0 (n*2) c rfl (fun _=>rfl) L1 HROW.out (by rw[<-HLL.out];omega) ?_;intro w2 row2 f2;have HR2:=κ row2;have HF2:=κ f2;clear row2 f2));go_loopg [13,14] n (MoRelO (val 18446744073709551616 xs) (val 18446744073709551616 ms) ys z ll n w1);case atStart=>exact⟨0,0,_,0,by omega,rfl,rfl,rfl,.inl rfl,HR2.out,HF2.out,by rw[spl_len (by rw[List.length_replicate,<- HLL.out];omega),HLL.out],DgN.zero (by rw[<-HLL.out];omega),by omega,by simp,by rw[List.drop_zero,zero_win (by rw[<-HLL.out];omega)];simp[val_nil]⟩
 case round=>
  clear HROW HR2 HM;obtain⟨i,kc,Z,U,hi,rfl,rfl,rfl,hkc,hrow,hf,hzl,hzd,hu0,hu1,hv⟩:=hrel;have HR:=κ hrow;have HF:=κ hf;have HZL:=κ hzl;have HZD:=κ hzd;have HU0:=κ hu0;have HU1:=κ hu1;have HV:=κ hv;have HKC:=κ hkc;have FX: ∀(b off:Nat) (qs:List Int) (wq:World),b≠z->Go.Big.Src .u64 w b off qs->Fr [z] w1 wq->Go.Big.Src .u64 wq b off qs:=fun b off qs wq hb hs hf=>hs.fr ((f.mono (S':=[z]) (by simp)).trans hf (fun x hx _=>hx)) (by simp;exact hb)
  have HFX:=κ FX;have hkcc:=hkc;clear hrow hf hzl hzd hu0 hu1 hv hkc FX;by_cases h1:i<n
  ·have cyi:=(HFX.out _ _ _ _ hzy HSY.out HF.out) i (by rw[HNY.out];exact h1)
   obtain⟨d,hd⟩: ∃d,d=ys.getD i 0:=⟨_,rfl⟩;obtain⟨hd0,hd1⟩:=HDY.out.getD (by omega) i;rw[<-hd]at cyi hd0 hd1;have HD:=κ hd;have hci: ¬c=i:=by omega
   have hll9:n+i<ll:=by omega
   have hlz:((Z.drop i).take n).length=n:=by rw[List.length_take,List.length_drop,HZL.out];omega
   have CA:=κ (addMulVVWWo_any z i (c-i) z i (c-i) bx ox cx n Z ((Z.drop i).take n) xs d 0 wr.drew HR.out.drew (by rw[HZL.out];omega) hlz ((HR.out.drew.src (by rw[HZL.out];omega)).take n) (HZD.out.win (by omega)) (.inr (.inl (Nat.le_refl _))) HNX.out (HFX.out _ _ _ _ hzx HSX.out HF.out.drew) HDX.out (.inl hzx) (by omega) hd0 hd1 (by omega) (by omega));have ein:((n:Int)+(i:Int)).toNat=n+i:=by omega
   have hwi:IntKind.i64.wrap ((n:Int)+(i:Int))=(n:Int)+(i:Int):=by rw[IntKind.wrap_i64];omega
   have hii:(n:Int)+(i:Int)<=(c:Int):=by omega
   have hi0:(0:Int)<=(n:Int)+(i:Int):=by omega
   have hi1:(n:Int)+(i:Int)<((n*2:Nat):Int):=by omega
   have hile:(i:Int)<=(n:Int)+(i:Int):=by omega
   have hisub:n+i-i=n:=by omega
   have hi2:(i:Int)<((n*2:Nat):Int):=by omega
   clear hd hlz;go_wp2_with fail;go_region_with (go_at_call 82;refine(Hid.out CA).mono ?_;rintro e w2 ⟨s1,c2,rfl,row2,f2,hs1l,hs1d,h20,h21,hv2⟩;have HS1L:=κ hs1l;have HS1D:=κ hs1d;have HV2:=κ hv2;have HF2':=κ (HF.out.drew.trans f2 (fun x hx _=>hx));have cz2:=row2.cell (i:=i) (by rw[spl_len (by rw[HS1L.out,HZL.out];omega),HZL.out];omega);obtain⟨a0,ha0⟩: ∃a0,a0=(spl Z i s1).getD i 0:=⟨_,rfl⟩;rw[<-ha0]at cz2;have HA0:=κ ha0;have HR2:=κ row2;clear hs1l hs1d hv2 f2 ha0 row2)
   all_goals (
    have hZ1l:(spl Z i s1).length=ll:=by rw[spl_len (by rw[HS1L.out,HZL.out];omega),HZL.out]
    have HZ1L:=κ hZ1l;obtain⟨t,ht⟩: ∃t,t=(a0*k)%18446744073709551616:=⟨_,rfl⟩;have hwt:IntKind.u64.wrap (a0*k)=t:=by rw[IntKind.wrap_u64,ht]
    have ht0:0<=t:=by omega
    have ht1:t<18446744073709551616:=by omega
    have HT:=κ ht;have hZ1d:DgN (n*2) (spl Z i s1):=HZD.out.spl HS1D.out (by rw[HS1L.out,HZL.out];omega)
    have hsz2:Go.Big.Src .u64 w2.drew z i s1:=by
     have h:=(HR2.out.drew.src (off:=i) (by rw[hZ1l];omega)).take n
     have e:((spl Z i s1).drop i).take n=s1:=by
      unfold spl;rw[List.drop_append_of_le_length (by rw[List.length_take,HZL.out];omega),List.drop_of_length_le (by rw[List.length_take];omega),List.nil_append,List.take_append_of_le_length (by rw[HS1L.out];omega),List.take_of_length_le (by rw[HS1L.out];omega)]
     rwa[e]at h
    have CB:=κ (addMulVVWWo_any z i (c-i) z i (c-i) bm om cm n (spl Z i s1) s1 ms t 0 w2.drew HR2.out.drew (by rw[hZ1l];omega) HS1L.out hsz2 HS1D.out (.inr (.inl (Nat.le_refl _))) HNM.out (HFX.out _ _ _ _ hzm HSM.out HF2'.out.drew) HDM.out (.inl hzm) (by omega) ht0 ht1 (by omega) (by omega));have HZ1D:=κ hZ1d;clear hZ1l ht hZ1d hsz2 CA;go_wp2_with fail;go_region_with (go_at_call 82;refine(Hid.out CB).mono ?_;rintro e w3 ⟨s2,c3,rfl,row3,f3,hs2l,hs2d,h30,h31,hv3⟩;have HS2L:=κ hs2l;have HS2D:=κ hs2d;have HV3:=κ hv3;have HF3:=κ (HF2'.out.drew.trans f3 (fun x hx _=>hx));have hfz:=row3.frozen (n+i);have cz3:=row3.cell (i:=n+i) (by rw[spl_len (by rw[HS2L.out,HZ1L.out];omega),HZ1L.out];omega);obtain⟨old,hold⟩: ∃old,old=(spl (spl Z i s1) i s2).getD (n+i) 0:=⟨_,rfl⟩;rw[<-hold]at cz3;have HR3:=κ row3;clear hs2l hs2d hv3 f3 hold row3)
    all_goals (
     obtain⟨q1,hq1⟩: ∃q1,q1=(kc+c2)%18446744073709551616:=⟨_,rfl⟩;obtain⟨q2,hq2⟩: ∃q2,q2=(q1+c3)%18446744073709551616:=⟨_,rfl⟩;have hwq1:IntKind.u64.wrap (kc+c2)=q1:=by rw[IntKind.wrap_u64,hq1]
     have hwq2:IntKind.u64.wrap (q1+c3)=q2:=by rw[IntKind.wrap_u64,hq2]
     obtain⟨hq20,hq21,hcar⟩:=mo_carry HKC.out h20 h21 h30 h31 hq1 hq2;have hZ2l:(spl (spl Z i s1) i s2).length=ll:=by rw[spl_len (by rw[HS2L.out,HZ1L.out];omega),HZ1L.out]
     have hwin:((spl (spl Z i s1) i s2).drop i).take n=s2:=by
      rw[spl];rw[List.drop_append_of_le_length (by rw[List.length_take,HZ1L.out];omega),List.drop_of_length_le (by rw[List.length_take];omega),List.nil_append,List.take_append_of_le_length (by rw[HS2L.out];omega),List.take_of_length_le (by rw[HS2L.out];omega)]
     have hs20:s2.getD 0 0=0:=by
      have e1:=val_head (zs:=s2) (by rw[HS2L.out];exact hn0);have e2:=val_head (zs:=s1) (by rw[HS1L.out];exact hn0);have e3:=val_head (zs:=ms) (by rw[HNM.out];exact hn0);have hb:=HS2D.out.getD (by omega) 0
      have ha0':a0=s1.getD 0 0:=by
       rw[HA0.out,spl_get (by rw[HS1L.out,HZL.out];omega),if_neg (by omega),if_pos (by rw[HS1L.out];omega),Nat.sub_self]
      have hWn:(18446744073709551616:Int)^n=18446744073709551616*18446744073709551616^(n-1):=by
       rw[Int.mul_comm,<- Int.pow_succ];congr 1;omega
      refine mo_low (A2:=val 18446744073709551616 s2) (Wn:=18446744073709551616^n) (by rw[HV3.out,Int.add_zero]) hWn (by rw[ha0'];exact e2) e3 HT.out HK.out ?_;rw[e1];omega
     have G: ∀nc:Int,(nc=0\/nc=1)->q2+18446744073709551616*nc=kc+c2+c3-> ∀wq:World,Row .u64 51 wq z ((spl (spl Z i s1) i s2).set (n+i) q2)->Fr [z] w1 wq->
      MoRelO (val 18446744073709551616 xs) (val 18446744073709551616 ms) ys z ll n w1 (n-(i+1)) (.int .u64 nc) (.int .i64 ((i:Int)+1)) wq:=by
      intro nc hnc hsum wq hrq hfq;refine⟨i+1,nc,_,U+18446744073709551616^i*t,by omega,rfl,by go_num,rfl,hnc,hrq,hfq,by rw[List.length_set,hZ2l],(HZ1D.out.spl HS2D.out (by rw[HS2L.out,HZ1L.out];omega)).set (by rw[hZ2l];exact hll9) hq20 hq21,?_,?_,?_⟩
      ·have:=Int.mul_nonneg (Int.le_of_lt (pow_pos_ (B:=18446744073709551616) (by omega) i)) ht0
       have:=HU0.out;omega
      ·have h:=Int.mul_le_mul_of_nonneg_left (show t<=18446744073709551615 by omega) (Int.le_of_lt (pow_pos_ (B:=18446744073709551616) (by omega) i))
       have:=HU1.out;rw[Int.pow_succ];omega
      ·have e1:=val_head (zs:=s2) (by rw[HS2L.out];exact hn0)
       rw[hs20,Int.zero_add]at e1
       have hWn:(18446744073709551616:Int)^n=18446744073709551616*18446744073709551616^(n-1):=by
        rw[Int.mul_comm,<- Int.pow_succ];congr 1;omega
       rw[Int.pow_succ,window_next (by rw[hZ2l];omega) hn0,hwin];refine mont_step (W:=18446744073709551616) (Wn1:=18446744073709551616^(n-1)) (d:=d) (A:=val 18446744073709551616 ((Z.drop i).take n)) (by rw[HV2.out,Int.add_zero]) (by rw[HV3.out,Int.add_zero]) hsum e1 rfl hWn ?_ HV.out ?_
       ·rw[val_snoc,List.length_drop,HS2L.out]
       ·rw[val_take_succ',<- HD.out]
     have HG:=κ G;have hrow4:=κ (HR3.out.set (n+i) q2);have hf4:=κ (HF3.out.set (p:=⟨z,n+i,none⟩) (.inl (by simp)) (.int .u64 q2));clear hq1 hq2 hZ2l hwin hs20 G HR3 HF3;rcases hcar with⟨k1,k2⟩|⟨k1,k2,k3⟩|⟨k1,k2,k3⟩
     ·have K2:=κ k2
      clear k2;go_wp2_with fail;go_roundg (n-(i+1));case measure=>omega
      case rel=>exact HG.out 1 (.inr rfl) K2.out _ hrow4.out hf4.out
     ·have K2:=κ k3
      clear k3;go_wp2_with fail;go_roundg (n-(i+1));case measure=>omega
      case rel=>exact HG.out 1 (.inr rfl) K2.out _ hrow4.out hf4.out
     ·have K2:=κ k3
      clear k3;go_wp2_with fail;go_roundg (n-(i+1));case measure=>omega
      case rel=>exact HG.out 0 (.inl rfl) K2.out _ hrow4.out hf4.out))
  ·obtain rfl:i=n:=by omega
   have hcn: ¬c=i:=by omega
   have hlw:((Z.drop i).take i).length=i:=by rw[List.length_take,List.length_drop,HZL.out];omega
   have hwd:DG 18446744073709551616 ((Z.drop i).take i):=HZD.out.win (by omega);have hvf:=HV.out;rw[show ys.take i=ys from List.take_of_length_le (by rw[HNY.out];omega)]at hvf;have hX:=val_nonneg (by omega) HDX.out;have hX1:=val_lt (by omega) HDX.out;have hY:=val_nonneg (by omega) HDY.out;have hY1:=val_lt (by omega) HDY.out;have hM:=val_nonneg (by omega) HDM.out;rw[HNX.out]at hX1;rw[HNY.out]at hY1;have hbnd:=mont_bound hX hX1 hY hY1 hM HU1.out hvf;have hwn:=pow_pos_ (B:=18446744073709551616) (by omega) i;have hA:=val_nonneg (by omega) hwd;have hsrc:Go.Big.Src .u64 wr.drew z i ((Z.drop i).take i):=(HR.out.drew.src (by rw[HZL.out];omega)).take i;have hsub:i*2-i=i:=by omega
   have hi2:(i:Int)<=((i*2:Nat):Int):=by omega
   have hic:(i:Int)<=(c:Int):=by omega
   have hfin: ∀(zs:List Int) (wq:World),Row .u64 51 wq z (spl Z 0 zs)->Fr [z] w1 wq->zs.length=i->DG 18446744073709551616 zs->val 18446744073709551616 zs=val 18446744073709551616 ((Z.drop i).take i)+18446744073709551616^i*kc-val 18446744073709551616 ms*kc->
    MontO w b0 c0 i (val 18446744073709551616 ms) (val 18446744073709551616 xs*val 18446744073709551616 ys) (.returned (.slice (some ⟨z,0,none⟩) i c)) wq:=by
    intro zs wq hrq hfq hql hqd hqv;refine⟨z,c,spl Z 0 zs,zs,rfl,hrq,hc1,by rw[spl_len (by rw[hql,HZL.out];omega),HZL.out];exact hcl,by unfold maxLen;omega,by unfold spl;rw[List.take_zero,List.nil_append,List.take_append_of_le_length (by omega),List.take_of_length_le (by omega)],hql,hqd,⟨U-kc*18446744073709551616^i,?_⟩,fun hM0=> ?_,(f.mono (S':=[z]) (by simp)).trans hfq (fun x hx _=>hx),HZZ.out.imp (fun h=>⟨h.1,h.2.1,h.2.2.2.1⟩) (fun h=>⟨h.1,h.2.1,h.2.2⟩)⟩
    ·rw[hqv]
     have e:(val 18446744073709551616 ((Z.drop i).take i)+18446744073709551616^i*kc-val 18446744073709551616 ms*kc)*18446744073709551616^i=(val 18446744073709551616 ((Z.drop i).take i)+18446744073709551616^i*kc)*18446744073709551616^i-val 18446744073709551616 ms*(kc*18446744073709551616^i):=by grind
     rw[e,hvf];grind
    ·have hpw:=pow_pos_ (B:=18446744073709551616) (by omega) i
     have hU:=HU1.out;have k0:0<=kc:=by rcases HKC.out with h|h<;>omega
     have h1:val 18446744073709551616 ms*U<val 18446744073709551616 ms*18446744073709551616^i:=Int.mul_lt_mul_of_pos_left hU hM0;have h2:0<=val 18446744073709551616 ms*(kc*18446744073709551616^i):=Int.mul_nonneg (by omega) (Int.mul_nonneg k0 (by omega));rw[hqv];have e:(val 18446744073709551616 ((Z.drop i).take i)+18446744073709551616^i*kc-val 18446744073709551616 ms*kc)*18446744073709551616^i=(val 18446744073709551616 ((Z.drop i).take i)+18446744073709551616^i*kc)*18446744073709551616^i-val 18446744073709551616 ms*(kc*18446744073709551616^i):=by grind
     rw[e,hvf];omega
   have HFIN:=κ hfin;have hile2:(i:Int)<=(i:Int)*2:=by omega
   rcases hkcc with rfl|rfl
   ·have HDP:=κ (show 0<i->(some (⟨z,0,none⟩:Addr))=some ⟨z,0,none⟩/\(some ⟨z,i,none⟩:Option Addr)=some ⟨z,i,none⟩from fun _=>⟨rfl,rfl⟩)
    have HLW:=κ hlw;have HWD:=κ hwd;have HSRC:=κ hsrc;obtain⟨WL,hWL⟩: ∃WL,WL=(Z.drop i).take i:=⟨_,rfl⟩;rw[<-hWL]at HLW HWD HSRC HFIN;clear hlw hwd hsrc hfin hvf hX hX1 hY hY1 hM hbnd hwn hA hWL HV;go_wp2_with fail;go_region_law (refine step_copy rfl (.tmp 120) (.tmp 123) _ _ rfl .u64 51 Tryz.underlying43 size_wordS (some ⟨z,0,none⟩) (some ⟨z,i,none⟩) i c (c-i) (by simp[Act.eval,Act.put]) WL (by simp[Act.eval,Act.put,hsub]) HLW.out z i HSRC.out z 0 Z HR.out.drew (fun _=>⟨rfl,rfl⟩) (by rw[HZL.out];omega) ?_;intro w2 row2 f2;have HG2:=κ (HFIN.out WL w2 row2 (HF.out.drew.trans f2 (fun x hx _=>hx)) HLW.out HWD.out (by rw[Int.mul_zero,Int.mul_zero,Int.add_zero,Int.sub_zero]));clear HFIN row2 f2);all_goals (go_wp2_with fail)
    all_goals go_ret
    all_goals exact HG2.out
   ·have CS:=κ (subVVo_any z 0 c z i (c-i) bm om cm i Z ((Z.drop i).take i) ms wr.drew HR.out.drew (by rw[HZL.out];omega) hlw hsrc hwd (.inr (.inl (by omega))) HNM.out (HFX.out _ _ _ _ hzm HSM.out HF.out.drew) HDM.out (.inl hzm) (by omega))
    have hTb:val 18446744073709551616 ((Z.drop i).take i)<val 18446744073709551616 ms:=by omega
    have HTB:=κ hTb;have HWN:=κ hwn;have HAA:=κ hA;have HMM:=κ hM;have HM1:=κ (show val 18446744073709551616 ms<18446744073709551616^i by have:=val_lt (by omega) HDM.out;rwa[HNM.out]at this);clear hlw hwd hsrc hfin hvf hX hX1 hY hY1 hM hbnd hwn hA HV hTb;go_wp2_with fail;go_region_with (go_at_call 71;refine(Hid.out CS).mono ?_;rintro e w2 ⟨zs,b,rfl,row2,f2,hzl2,hzd2,hb0,hb1,hv2⟩;have HR2':=κ row2;have HF2':=κ f2;have HZL2:=κ hzl2;have HZD2:=κ hzd2;have HV2:=κ hv2;clear row2 f2 hzl2 hzd2 hv2)
    all_goals (
     have hG2:=HFIN.out zs w2 HR2'.out (HF.out.drew.trans HF2'.out (fun x hx _=>hx)) HZL2.out HZD2.out (by
      have h:=HV2.out;have h1:=HTB.out;have h2:=val_nonneg (B:=18446744073709551616) (by omega) HZD2.out;have h3:=val_lt (B:=18446744073709551616) (by omega) HZD2.out;rw[HZL2.out]at h3;rcases(show b=0\/b=1 by omega)with rfl|rfl
      ·omega
      ·omega);have HG2:=κ hG2;clear hG2 HFIN HR2' HF2';go_wp2_with fail;go_ret;exact HG2.out)
def SlB(S:List Nat)(w:World)(v:Value)(xs:List Int):Prop:=
 ∃A cap,v= .slice A xs.length cap/\xs.length<=cap/\cap<=maxLen/\(0<xs.length-> ∃b off,A=some ⟨b,off,none⟩/\b<w.heap.size/\b∉S/\Go.Big.Src .u64 w b off xs)
theorem SlB.x{S:List Nat}{w:World}{v:Value}{xs:List Int}{b0:Nat}(h:SlB S w v xs)(hb:b0∈S\/w.heap.size<=b0):SlX b0 w v xs:=by
 obtain⟨A,c,h1,h2,h3,h4⟩:=h;refine⟨A,c,h1,h2,h3,fun hp=> ?_⟩;obtain⟨b,off,k1,k2,k3,k4⟩:=h4 hp;exact⟨b,off,k1,k2,by rintro rfl;rcases hb with hb|hb;exact k3 hb;omega,k4⟩
theorem SlB.fr{S S':List Nat}{w w1:World}{v:Value}{xs:List Int}(h:SlB S w v xs)(f:Fr S' w w1)(hb: ∀b,b∈S'->b∈S\/w.heap.size<=b):SlB S w1 v xs:=by
 obtain⟨A,c,h1,h2,h3,h4⟩:=h;refine⟨A,c,h1,h2,h3,fun hp=> ?_⟩;obtain⟨b,off,k1,k2,k3,k4⟩:=h4 hp;exact⟨b,off,k1,Nat.lt_of_lt_of_le k2 f.size,k3,k4.fr f (fun hm=>by rcases hb b hm with hb|hb;exact k3 hb;omega)⟩
theorem SlB.sub{S S':List Nat}{w:World}{v:Value}{xs:List Int}(h:SlB S w v xs)(hb: ∀b,b∈S'->b∈S\/w.heap.size<=b):SlB S' w v xs:=by
 obtain⟨A,c,h1,h2,h3,h4⟩:=h;refine⟨A,c,h1,h2,h3,fun hp=> ?_⟩;obtain⟨b,off,k1,k2,k3,k4⟩:=h4 hp;exact⟨b,off,k1,k2,fun hm=>by rcases hb b hm with hb|hb;exact k3 hb;omega,k4⟩
theorem SlB.of{S:List Nat}{w:World}{v:Value}{xs:List Int}(h:Sl .u64 w v xs)(hb: ∀b,b∈S->w.heap.size<=b):SlB S w v xs:=by
 obtain⟨A,c,h1,h2,h3,h4⟩:=h;refine⟨A,c,h1,h2,h3,fun hp=> ?_⟩;obtain⟨b,off,k1,k2,k4⟩:=h4 hp;exact⟨b,off,k1,k2,fun hm=>by have:=hb b hm;omega,k4⟩
theorem SlB.sl{S:List Nat}{w:World}{v:Value}{xs:List Int}(h:SlB S w v xs):Sl .u64 w v xs:=by
 obtain⟨A,c,h1,h2,h3,h4⟩:=h;refine⟨A,c,h1,h2,h3,fun hp=> ?_⟩;obtain⟨b,off,k1,k2,k3,k4⟩:=h4 hp;exact⟨b,off,k1,k2,k4⟩
structure RoN(w:World)(b c n:Nat)(L zs:List Int):Prop where
 row:Row .u64 51 w b L
 nc:n<=c
 cl:c<=L.length
 cm:c<=maxLen
 tk:L.take n=zs
 ln:zs.length=n
 dg:DG 18446744073709551616 zs
theorem RoN.slB{w:World}{b c n:Nat}{L zs:List Int}{S:List Nat}(h:RoN w b c n L zs)(hb:b∉S):SlB S w (.slice (some ⟨b,0,none⟩) n c) zs:=by
 refine⟨_,c,by rw[h.ln],by rw[h.ln];exact h.nc,h.cm,fun _=>⟨b,0,rfl,h.row.lt,hb,fun j hj=> ?_⟩⟩;rw[h.ln]at hj;have hc:=h.row.cell (i:=j) (by have:=h.nc;have:=h.cl;omega)
 have e:L.getD j 0=zs.getD j 0:=by
  rw[<-h.tk];simp only[List.getD_eq_getElem?_getD,List.getElem?_take,if_pos hj]
 rw[Nat.zero_add,hc,e]
structure RoR(w:World)(b c:Nat)(L:List Int):Prop where
 row:Row .u64 51 w b L
 cl:c<=L.length
 cm:c<=maxLen
theorem RoR.o{w:World}{b c:Nat}{L:List Int}(h:RoR w b c L)(n:Nat):RcO w (some ⟨b,0,none⟩) b c L n:=⟨h.cm,.inr ⟨rfl,h.row,h.cl⟩⟩
structure MoB(n:Nat)(k X:Int)(vm vo vy:Value)(ms os ys:List Int)(pb:Nat)(S:List Nat)(w:World):Prop where
 n0:0<n
 n9:n<=100000
 k0:0<=k
 k1:k<18446744073709551616
 kk:(18446744073709551616:Int)∣ms.getD 0 0*k+1
 ml:ms.length=n
 md:DG 18446744073709551616 ms
 mo:val 18446744073709551616 ms%2=1
 m:SlB S w vm ms
 ol:os.length=n
 od:DG 18446744073709551616 os
 ov:val 18446744073709551616 os=1
 o:SlB S w vo os
 y:SlB S w vy ys
 pb_:pb∉S
 pw: ∀i,i<16-> ∃v ps,w.cell? ⟨pb,i,none⟩=some v/\SlB S w v ps/\ps.length=n/\DG 18446744073709551616 ps/\Cg (val 18446744073709551616 ms) (val 18446744073709551616 ps) (X^i*18446744073709551616^n)
theorem MoB.fr{n:Nat}{k X:Int}{vm vo vy:Value}{ms os ys:List Int}{pb:Nat}{S S' S2:List Nat}{w w1:World}(h:MoB n k X vm vo vy ms os ys pb S w)(f:Fr S' w w1)(hb: ∀b,b∈S'->b∈S\/w.heap.size<=b)(h2: ∀b,b∈S2->b∈S\/w.heap.size<=b):MoB n k X vm vo vy ms os ys pb S2 w1:=by
 have g: ∀{v xs},SlB S w v xs->SlB S2 w1 v xs:=fun hs=>by
  have k:=(hs.sub (S':=S2++S') (fun b hb'=>by rw[List.mem_append]at hb';exact hb'.elim (h2 b) (hb b))).fr f (fun b hb'=> .inl (List.mem_append_right _ hb'));obtain⟨A,c,k1,k2,k3,k4⟩:=k;refine⟨A,c,k1,k2,k3,fun hp=> ?_⟩;obtain⟨b,off,j1,j2,j3,j4⟩:=k4 hp;exact⟨b,off,j1,j2,fun hm=>j3 (List.mem_append_left _ hm),j4⟩
 have hpb:pb<w.heap.size:=by
  obtain⟨v,ps,hc,_⟩:=h.pw 0 (by omega);exact World.block_lt_of_cell? w _ hc
 refine⟨h.n0,h.n9,h.k0,h.k1,h.kk,h.ml,h.md,h.mo,g h.m,h.ol,h.od,h.ov,g h.o,g h.y,fun hm=>by rcases h2 pb hm with hh|hh;exact h.pb_ hh;omega,fun i hi=> ?_⟩;obtain⟨v,ps,hc,hs,h3⟩:=h.pw i hi;refine⟨v,ps,?_,g hs,h3⟩;rw[World.cell?_of_block (f.block pb hpb (fun hm=>by rcases hb pb hm with hh|hh;exact h.pb_ hh;omega))];exact hc
def MoS(n:Nat)(k X:Int)(vm vo vy:Value)(ms os ys:List Int)(pb:Nat)(S0:List Nat)(w0:World)(vz vr:Value)(e:Nat)(w:World):Prop:=
 ∃bz cz Lz zs br lr cr Lr,vz= .slice (some ⟨bz,0,none⟩) n cz/\RoN w bz cz n Lz zs/\Cg (val 18446744073709551616 ms) (val 18446744073709551616 zs) (X^e*18446744073709551616^n)/\
  vr= .slice (some ⟨br,0,none⟩) lr cr/\lr<=cr/\RoR w br cr Lr/\bz≠br/\(bz∈S0\/w0.heap.size<=bz)/\(br∈S0\/w0.heap.size<=br)/\MoB n k X vm vo vy ms os ys pb [bz,br] w/\Fr S0 w0 w
def MoP(n:Nat)(k X:Int)(vm vo vy:Value)(ms os ys:List Int)(pb:Nat)(S0:List Nat)(w0:World)(vz:Value)(e:Nat)(en:Ending)(w':World):Prop:=
 ∃v,en= .returned v/\MoS n k X vm vo vy ms os ys pb S0 w0 v vz e w'
def MoF(n:Nat)(M V:Int)(S0:List Nat)(w0:World)(en:Ending)(w':World):Prop:=
 ∃b c L zs,en= .returned (.slice (some ⟨b,0,none⟩) n c)/\RoN w' b c n L zs/\Cg M (val 18446744073709551616 zs) V/\val 18446744073709551616 zs<=M/\(b∈S0\/w0.heap.size<=b)/\Fr S0 w0 w'
section
variable {n:Nat}{k X:Int}{vm vo vy:Value}{ms os ys:List Int}{pb:Nat}{S0:List Nat}{vz vr:Value}{e d:Nat}{w0 w:World}
theorem mo_call{bz cz br cr lr:Nat}{Lz Lr zs us:List Int}{vu:Value}(B:MoB n k X vm vo vy ms os ys pb [bz,br] w)(hz:RoN w bz cz n Lz zs)(hr:RoR w br cr Lr)(hlr:lr<=cr)(hne:bz≠br)(hu:SlX br w vu us)(hul:us.length=n)(hud:DG 18446744073709551616 us):
 Calls Tryz.prog 94 #[.slice (some ⟨br,0,none⟩) lr cr,.slice (some ⟨bz,0,none⟩) n cz,vu,vm,.int .u64 k,.int .i64 (n:Int)] w (MontO w br cr n (val 18446744073709551616 ms) (val 18446744073709551616 zs*val 18446744073709551616 us)):=
 montR_any _ lr br cr Lr _ vu vm zs us ms n k w (hr.o _) hlr ((hz.slB (S:=[br]) (by simpa using hne)).x (.inl (by simp))) hu (B.m.x (.inl (by simp))) hz.dg hud B.md hz.ln hul B.ml B.n0 B.n9 B.k0 B.k1 B.kk
theorem mo_next{bz cz br cr:Nat}{Lz zs:List Int}{P:Int}{en:Ending}{w':World}{f:Nat}(B:MoB n k X vm vo vy ms os ys pb [bz,br] w)(hz:RoN w bz cz n Lz zs)(hne:bz≠br)(hN:bz∈S0\/w0.heap.size<=bz)(hN':br∈S0\/w0.heap.size<=br)(hF:Fr S0 w0 w)
 (hP: ∀z:Int,val 18446744073709551616 ms∣z*18446744073709551616^n-P->Cg (val 18446744073709551616 ms) z (X^f*18446744073709551616^n))(h:MontO w br cr n (val 18446744073709551616 ms) P en w'):
 MoP n k X vm vo vy ms os ys pb S0 w0 (.slice (some ⟨bz,0,none⟩) n cz) f en w':=by
 obtain⟨b,c,L,us,rfl,hrow,h1,h2,h3,h4,h5,h6,h7,_,hf,hp⟩:=h;have hb:b=br\/w.heap.size<=b:=hp.imp (fun a=>a.1) (fun a=>a.2.2);have hsz:=hF.size;have hbz:b≠bz:=by rcases hb with rfl|hb;exact hne.symm;have:=hz.row.lt;omega
 have hb0:b∈S0\/w0.heap.size<=b:=by rcases hb with rfl|hb;exact hN';exact .inr (by omega)
 refine⟨_,rfl,b,c,L,us,bz,n,cz,Lz,rfl,⟨hrow,by omega,h2,h3,h4,h5,h6⟩,hP _ h7,rfl,hz.nc,⟨hz.row.fr hf (by simpa using hbz.symm),hz.cl,hz.cm⟩,hbz,hb0,hN,?_,hF.trans hf (fun x hx hlt=>by
  simp only[List.mem_singleton]at hx;subst hx;rcases hb0 with hb0|hb0
  ·exact hb0
  ·omega)⟩;refine B.fr (S':=[b]) (S2:=[b,bz]) hf (fun x hx=> ?_) (fun x hx=> ?_)
 ·simp only[List.mem_singleton]at hx
  subst hx;rcases hb with rfl|hb
  ·exact .inl (by simp)
  ·exact .inr hb
 ·simp only[List.mem_cons,List.not_mem_nil,or_false]at hx ⊢
  rcases hx with rfl|rfl
  ·rcases hb with rfl|hb
   ·exact .inl (.inr rfl)
   ·exact .inr hb
  ·exact .inl (.inl rfl)
theorem mo_sq(h:MoS n k X vm vo vy ms os ys pb S0 w0 vz vr e w):Calls Tryz.prog 94 #[vr,vz,vz,vm,.int .u64 k,.int .i64 (n:Int)] w (MoP n k X vm vo vy ms os ys pb S0 w0 vz (e+e)):=by
 obtain⟨bz,cz,Lz,zs,br,lr,cr,Lr,rfl,hz,hc,rfl,hl,hr,hne,h1,h2,B,hF⟩:=h;exact(mo_call B hz hr hl hne ((hz.slB (S:=[br]) (by simpa using hne)).x (.inl (by simp))) hz.ln hz.dg).mono (fun en w' hm=>mo_next B hz hne h1 h2 hF (fun z hd=>mont_pow (inv_word B.mo n) hc hc hd) hm)
theorem mo_pw(h:MoS n k X vm vo vy ms os ys pb S0 w0 vz vr e w)(hd:d<16){vp:Value}(hp:w.cell? ⟨pb,d,none⟩=some vp):Calls Tryz.prog 94 #[vr,vz,vp,vm,.int .u64 k,.int .i64 (n:Int)] w (MoP n k X vm vo vy ms os ys pb S0 w0 vz (e+d)):=by
 obtain⟨bz,cz,Lz,zs,br,lr,cr,Lr,rfl,hz,hc,rfl,hl,hr,hne,h1,h2,B,hF⟩:=h;obtain⟨v,ps,hv,hs,hpl,hpd,hpc⟩:=B.pw d hd;obtain rfl:v=vp:=by rw[hp]at hv;exact(Option.some.inj hv).symm
 exact(mo_call B hz hr hl hne (hs.x (.inl (by simp))) hpl hpd).mono (fun en w' hm=>mo_next B hz hne h1 h2 hF (fun z hd=>mont_pow (inv_word B.mo n) hc hpc hd) hm)
theorem mo_out(h:MoS n k X vm vo vy ms os ys pb S0 w0 vz vr e w):Calls Tryz.prog 94 #[vr,vz,vo,vm,.int .u64 k,.int .i64 (n:Int)] w (MoF n (val 18446744073709551616 ms) (X^e) S0 w0):=by
 obtain⟨bz,cz,Lz,zs,br,lr,cr,Lr,rfl,hz,hc,rfl,hl,hr,hne,h1,h2,B,hF⟩:=h;refine(mo_call B hz hr hl hne (B.o.x (.inl (by simp))) B.ol B.od).mono ?_;rintro en w' ⟨b,c,L,us,rfl,hrow,k1,k2,k3,k4,k5,k6,k7,k8,hf,hp⟩;rw[B.ov]at k7 k8;have hsz:=hF.size;have hb0:b∈S0\/w0.heap.size<=b:=by rcases hp with⟨rfl,_⟩|⟨_,_,hb⟩;exact h2;exact .inr (by omega)
 have hmo:=B.mo;have hm0:=val_nonneg (B:=18446744073709551616) (by omega) B.md
 refine⟨b,c,L,us,rfl,⟨hrow,by omega,k2,k3,k4,k5,k6⟩,mont_out (inv_word hmo n) hc k7,?_,hb0,hF.trans hf (fun x hx hlt=>by
  simp only[List.mem_singleton]at hx;subst hx;rcases hb0 with hb0|hb0
  ·exact hb0
  ·omega)⟩;have hk:=k8 (by omega);have hzl:=val_lt (B:=18446744073709551616) (by omega) hz.dg;rw[hz.ln]at hzl;have hR:=pow_pos_ (B:=18446744073709551616) (by omega) n;rcases Int.lt_or_le (val 18446744073709551616 ms) (val 18446744073709551616 us)with hh|hh
 ·exfalso
  have h3:(val 18446744073709551616 ms+1)*18446744073709551616^n<=val 18446744073709551616 us*18446744073709551616^n:=Int.mul_le_mul_of_nonneg_right (by omega) (by omega);have h4:(val 18446744073709551616 ms+1)*18446744073709551616^n=val 18446744073709551616 ms*18446744073709551616^n+18446744073709551616^n:=by grind
  omega
 ·exact hh
end
end Go.Proofs.YthecibbmbnpegaaGreatDoor
