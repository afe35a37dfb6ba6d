/-
  Part 8 of the proof of the law FnExpSum: XVWg. Conditions: those of each statement.
-/
import Derived.Test.YthecibbmbnpegaaGreatDoorK07
import Derived.Laws.Bits64
set_option linter.unusedSimpArgs false
set_option linter.unusedVariables false
set_option maxRecDepth 100000
set_option maxHeartbeats 4000000
namespace Go.Big
open Go.RowKit
theorem row_or{k:IntKind}{T:TypeId}{w w1:World}{bx bz:Nat}{X L L1:List Int}(hX:Row k T w bx X)(hL:Row k T w1 bz L1)(hf:Fr [bz] w w1): ∃X1,Row k T w1 bx X1:=by
 by_cases e:bx=bz
 ·subst e;exact⟨_,hL⟩
 ·exact⟨_,hX.fr hf (by simpa using e)⟩
theorem spl_self{k:IntKind}{T:TypeId}{w:World}{b o:Nat}{L xs:List Int}(hr:Row k T w b L)(hs:Src k w b o xs)(hfit:o+xs.length<=L.length):spl L o xs=L:=by
 have hl:=spl_len hfit;refine List.ext_getElem hl (fun j h1 h2=> ?_)
 have e:(spl L o xs).getD j 0=L.getD j 0:=by
  by_cases hin:o<=j/\j<o+xs.length
  ·obtain⟨i,rfl⟩: ∃i,j=o+i:=⟨j-o,by omega⟩
   rw[spl_get_in (by omega) (by omega)];have h:=hs i (by omega);rw[hr.cell h2]at h;injection h with h;injection h with _ h;exact h.symm
  ·exact spl_getD_out hfit hin
 rwa[getD_in h1,getD_in h2]at e
theorem spl_pre{L xs pre:List Int}{o:Nat}(h:spl L o xs=L)(hfit:o+xs.length<=L.length)(hp:pre.length<=xs.length):spl L o (pre++xs.drop pre.length)=spl L o pre:=by
 have hl1:(pre++xs.drop pre.length).length=xs.length:=by rw[List.length_append,List.length_drop];omega
 have a1:=spl_len (L:=L) (o:=o) (cs:=pre++xs.drop pre.length) (by omega);have a2:=spl_len (L:=L) (o:=o) (cs:=pre) (by omega);refine List.ext_getElem (a1.trans a2.symm) (fun j h1 h2=> ?_)
 have e:(spl L o (pre++xs.drop pre.length)).getD j 0=(spl L o pre).getD j 0:=by
  rw[a1]at h1;by_cases hin:o<=j/\j<o+xs.length
  ·obtain⟨i,rfl⟩: ∃i,j=o+i:=⟨j-o,by omega⟩
   rw[spl_get_in (by omega) (by omega)];by_cases hi:i<pre.length
   ·rw[spl_get_in (by omega) hi]
    simp[List.getD_eq_getElem?_getD,List.getElem?_append_left hi]
   ·rw[spl_getD_out (by omega) (by omega)]
    have e2:=spl_get_in (L:=L) (o:=o) (cs:=xs) (j:=i) (by omega) (by omega);rw[h]at e2;rw[e2];simp only[List.getD_eq_getElem?_getD];rw[List.getElem?_append_right (by omega),List.getElem?_drop];congr 2;omega
  ·rw[spl_getD_out (by omega) (by omega),spl_getD_out (by omega) (by omega)]
 rwa[getD_in h1,getD_in h2]at e
end Go.Big
namespace Go.Proofs.YthecibbmbnpegaaGreatDoor
open Go.Big Go.RowKit
theorem neq_ptrA{a c:Addr}{L X:List Int}{T T':TypeId}(w:World)(hne:a≠c)(hz:Row .u64 T w a.block L)(hx:Row .u64 T' w c.block X):
 (binOp .neq 90 (.pointer (some a)) (.pointer (some c))).run Tryz.prog w= .ok (.bool true) w:=by
 obtain⟨j,hj,hjs⟩: ∃j,Tryz.prog.info? 51=some j/\j.size=1:=by
  have h:=size_wordV;cases e:Tryz.prog.info? 51 with
  |none=>rw[e]at h;cases h
  |some j=>rw[e]at h;exact⟨j,rfl,by simpa using h⟩
 have h: ∀d:Nat,(Op.equalIn (d+1) 90 (.pointer (some a)) (.pointer (some c))).run Tryz.prog w= .ok false w:=fun d=>by
  simp[Op.equalIn,run_underlying Tryz.underlying90,sizeOf,typeInfo,hj,hjs,run_sameAddr_other w hne hz hx]
 simp only[binOp];simp[Op.equal,Op.maxDepth,h 9999]
theorem neq_ptrS(a:Addr)(w:World):(binOp .neq 90 (.pointer (some a)) (.pointer (some a))).run Tryz.prog w= .ok (.bool false) w:=by
 obtain⟨j,hj,hjs⟩: ∃j,Tryz.prog.info? 51=some j/\j.size=1:=by
  have h:=size_wordV;cases e:Tryz.prog.info? 51 with
  |none=>rw[e]at h;cases h
  |some j=>rw[e]at h;exact⟨j,rfl,by simpa using h⟩
 have h: ∀d:Nat,(Op.equalIn (d+1) 90 (.pointer (some a)) (.pointer (some a))).run Tryz.prog w= .ok true w:=fun d=>by
  simp[Op.equalIn,run_underlying Tryz.underlying90,sizeOf,typeInfo,hj,hjs,run_sameAddr_same]
 simp only[binOp];simp[Op.equal,Op.maxDepth,h 9999]
theorem addVWd_any(bz oz kz bx ox kx n:Nat)(L xs:List Int)(y:Int)(w:World)(hz:Row .u64 51 w bz L)(hfit:oz+n<=L.length)(hnx:xs.length=n)(hsx:Go.Big.Src .u64 w bx ox xs)(hdx:DG 18446744073709551616 xs)(X:List Int)(hX:Row .u64 51 w bx X)(hne:bx≠bz\/ox+n<=oz\/oz+n<=ox)(hn0:0<n)(hn9:n<=1000000000)(hkz:n<=kz)(hkx:n<=kx)(hkz9:kz<=maxLen)(hkx9:kx<=maxLen)(hy0:0<=y)(hy1:y<18446744073709551616):
 Calls Tryz.prog 44 #[.slice (some ⟨bz,oz,none⟩) n kz,.slice (some ⟨bx,ox,none⟩) n kx,.int .u64 y] w (VecPost 51 w bz oz n L (fun zs c=>0<=c/\c<=1/\val 18446744073709551616 zs+18446744073709551616^n*c=val 18446744073709551616 xs+y)):=by
 unfold maxLen at hkz9 hkx9;have HZ:=κ hz;have HNx:=κ hnx;have HSx:=κ hsx;have HDx:=κ hdx;have HX:=κ hX;have hna:(⟨bz,oz,none⟩:Addr)≠⟨bx,ox,none⟩:=by intro e;injection e with e1 e2;omega
 have HNE:=κ hne;have HNA:=κ hna;clear hne hna;have hn0':(n:Int)≠0:=by omega
 have hn1':(1:Int)<=(n:Int):=by omega
 have cx0:=hsx 0 (by omega);obtain⟨x,hx⟩: ∃x,x=xs.getD 0 0:=⟨_,rfl⟩;rw[<-hx]at cx0;have hxd:=hdx.getD (by omega) 0;rw[<-hx]at hxd;obtain⟨hx0,hx1⟩:=hxd
 have ht1:val 18446744073709551616 (xs.take 1)=x:=by
  have e:=val_take_succ' 18446744073709551616 xs 0;rw[<-hx]at e;simpa[val_nil]using e
 have HT1:=κ ht1;have hfz:=hz.frozen (oz+0);have cz:=hz.cell (i:=oz+0) (by omega);obtain⟨old,hold⟩: ∃old,old=L.getD (oz+0) 0:=⟨_,rfl⟩;rw[<-hold]at cz;simp only[Nat.add_zero]at cz cx0 hfz;obtain⟨s,hs⟩: ∃s,s=(x+y+0)%18446744073709551616:=⟨_,rfl⟩;obtain⟨c,hc⟩: ∃c,c=(x+y+0)/18446744073709551616:=⟨_,rfl⟩;have CA:=badd_any x y 0 w hx0 hx1 hy0 hy1 (by omega) (by omega);rw[<-hs,<- hc]at CA;have HCA:=κ CA;have hs0:0<=s/\s<18446744073709551616:=by omega
 have hc0:c=0\/c=1:=by omega
 have hsc:s+18446744073709551616*c=x+y:=by omega
 have HSC:=κ hsc;have HS0:=κ hs0
 have hrow1:Row .u64 51 (w.setCell ⟨bz,oz,none⟩ (.int .u64 s)) bz (spl L oz [s]):=by
  have h:=HZ.out.set oz s;have e:=spl_set_end (L:=L) (o:=oz) (cs:=[]) (by simp;omega) s;rw[spl_nil]at e;rw[show L.set oz s=spl L oz [s]from e]at h;exact h
 have hf1:Fr [bz] w (w.setCell ⟨bz,oz,none⟩ (.int .u64 s)):=by apply Fr.set _ (.inl (by simp));exact Fr.refl _ _
 have HROW1:=κ hrow1;have HF1:=κ hf1;clear hz hnx hsx hdx hx hold hs hc CA hs0 hsc hX ht1 hrow1 hf1;rcases hc0 with rfl|rfl
 ·go_enter Tryz.func44,Tryz.ntmps44
  go_wp2_with (go_at_call 74;refine(HCA.out).mono ?_;rintro e w1 ⟨rfl,rfl⟩);have hrow1:=HROW1.out;have hf1:=HF1.out;obtain⟨X1,hX1⟩:=row_or (L:=L) HX.out hrow1 hf1;have hs1:=HSx.out.keep HZ.out hrow1 hf1 (by simp;omega) (by have:=HNE.out;rw[HNx.out];unfold Apart;simp;omega);obtain⟨w1,hw1⟩: ∃w1,w1=w.setCell ⟨bz,oz,none⟩ (.int .u64 s):=⟨_,rfl⟩;clear HROW1 HF1;rw[<-hw1]at hrow1 hf1 hX1 hs1 ⊢
  clear hw1;have hq:=neq_ptrA (a:=⟨bz,oz,none⟩) (c:=⟨bx,ox,none⟩) w1.drew HNA.out hrow1.drew hX1.drew;have HROW:=κ hrow1;have HF:=κ hf1;have HS1:=κ hs1;clear hrow1 hf1 hX1 hs1;go_region;go_wp2_with fail;go_region_law (refine step_copy rfl (.tmp 40) (.tmp 42) _ _ rfl .u64 51 Tryz.underlying42 size_wordV _ _ (n-1) (kz-1) (kx-1) rfl (xs.drop 1) rfl (by rw[List.length_drop,HNx.out]) bx (ox+1) (HS1.out.drop 1) bz (oz+1) (spl L oz [s]) HROW.out.drew.drew (fun hp=>⟨by rw[if_neg (by omega)],by rw[if_neg (by omega)]⟩) (by rw[spl_len (by simp;omega)];omega) ?_;intro w2 row2 f2);all_goals (go_wp2_with fail)
  all_goals go_ret
  all_goals (
   have row3:=row2;rw[show oz+1=oz+[s].length from rfl,spl_app (by simp;omega)]at row3;refine⟨[s]++xs.drop 1,0,rfl,row3,fr_same HF.out.drew.drew f2,?_,DG.append (DG.cons HS0.out.1 HS0.out.2 (DG.nil _)) (HDx.out.drop 1),by omega,by omega,?_⟩
   ·rw[List.length_append,List.length_drop,HNx.out];simp;omega
   ·have e:=val_split 18446744073709551616 xs 1 (by rw[HNx.out];omega)
    have h:=HSC.out;rw[HT1.out]at e;rw[e];simp[val_cons,val_nil];omega)
 ·have hh:val 18446744073709551616 [s]=s:=by simp[val_cons,val_nil]
  have HH:=κ hh;clear hh;go_enter Tryz.func44,Tryz.ntmps44;go_wp2_with (go_at_call 74;refine(HCA.out).mono ?_;rintro e w1 ⟨rfl,rfl⟩);go_loopg [9] (n-1) (fun g iv wr=> ∃(i:Nat) (pre:List Int),1<=i/\i<=n/\g=n-i/\iv= .int .i64 i/\Row .u64 51 wr bz (spl L oz pre)/\Fr [bz] w wr/\pre.length=i/\DG 18446744073709551616 pre/\val 18446744073709551616 pre+18446744073709551616^i*1=val 18446744073709551616 (xs.take i)+y)
  case atStart=>
   refine⟨1,[s],by omega,by omega,rfl,rfl,HROW1.out,HF1.out,rfl,DG.cons HS0.out.1 HS0.out.2 (DG.nil _),?_⟩;have h:=HSC.out;rw[HH.out,HT1.out];omega
  case round=>
   obtain⟨i,pre,hi1,hi,rfl,rfl,hrow,hf,hl,hdg,hv⟩:=hrel;have HL:=κ hl;have HV:=κ hv;have HROW:=κ hrow;have HF:=κ hf;clear HROW1 HF1 HSC HS0 HH HT1 HCA cx0 cz hfz;by_cases h1:i<n
   ·have hlen:(spl L oz pre).length=L.length:=spl_len (by omega)
    have HLEN:=κ hlen;have hfz:=hrow.frozen (oz+i);have cz:=hrow.cell (i:=oz+i) (by omega);obtain⟨old,hold⟩: ∃old,old=(spl L oz pre).getD (oz+i) 0:=⟨_,rfl⟩;rw[<-hold]at cz;have cx:=(HSx.out.keep HZ.out hrow hf (by omega) (by have:=HNE.out;rw[HNx.out];unfold Apart;omega)) i (by rw[HNx.out];exact h1);obtain⟨q,hq⟩: ∃q,q=xs.getD i 0:=⟨_,rfl⟩;rw[<-hq]at cx;have hqd:=HDx.out.getD (by omega) i;rw[<-hq]at hqd;obtain⟨hq0,hq1⟩:=hqd;have Hq:=κ hq;have ein:((i:Int)+1).toNat=i+1:=by omega
    have hwi:IntKind.i64.wrap ((i:Int)+1)=(i:Int)+1:=by rw[IntKind.wrap_i64];omega
    have hi1':(i:Int)+1<=(n:Int):=by omega
    have hi0':(0:Int)<=(i:Int)+1:=by omega
    clear hq hold hlen hl hv hrow hf;by_cases h2:q=18446744073709551615
    ·subst h2
     go_wp2_with fail;go_roundg (n-(i+1));case measure=>omega
     case rel=>
      have e:oz+i=oz+pre.length:=by rw[HL.out]
      refine⟨i+1,pre++[0],by omega,by omega,rfl,by go_num,?_,by repeat (first|exact HF.out|apply Fr.drewN|apply Fr.set _ (.inl (by simp))),by rw[List.length_append,HL.out];simp,hdg.append (DG.cons (by omega) (by omega) (DG.nil _)),?_⟩
      ·rw[<-spl_set_end (by rw[HL.out];omega),<- e];exact HROW.out.set _ _
      ·rw[val_snoc,HL.out,val_take_succ',<- Hq.out,Int.pow_succ]
       have h:=HV.out;grind
    ·have hw:IntKind.u64.wrap (q+1)=q+1:=IntWalk.u64_in _ (by omega)
     have hrow1:Row .u64 51 ((wr).setCell ⟨bz,oz+i,none⟩ (.int .u64 (q+1))) bz (spl L oz (pre++[q+1])):=by
      have h:=HROW.out.set (oz+i) (q+1);have e:oz+i=oz+pre.length:=by rw[HL.out]
      rw[<-spl_set_end (by rw[HL.out];omega),<- e];exact h
     have hf1:Fr [bz] w ((wr).setCell ⟨bz,oz+i,none⟩ (.int .u64 (q+1))):=by apply Fr.set _ (.inl (by simp));exact HF.out
     have HROW1:=κ hrow1;have HF1:=κ hf1;clear hrow1 hf1;go_wp2_with fail;have hrow1:=HROW1.out;have hf1:=HF1.out;obtain⟨X1,hX1⟩:=row_or (L:=L) HX.out hrow1 hf1;have hs1:=HSx.out.keep HZ.out hrow1 hf1 (by simp[HL.out];omega) (by have:=HNE.out;rw[HNx.out];unfold Apart;simp[HL.out];omega);obtain⟨w1,hw1⟩: ∃w1,w1=wr.setCell ⟨bz,oz+i,none⟩ (.int .u64 (q+1)):=⟨_,rfl⟩;clear HROW1 HF1;rw[<-hw1]at hrow1 hf1 hX1 hs1 ⊢
     clear hw1;have hq:=neq_ptrA (a:=⟨bz,oz,none⟩) (c:=⟨bx,ox,none⟩) w1.drew HNA.out hrow1.drew hX1.drew;have HROW1:=κ hrow1;have HF1:=κ hf1;have HS1:=κ hs1;clear hrow1 hf1 hX1 hs1 cx cz hfz HROW HF
     have FIN: ∀w2,Row .u64 51 w2 bz (spl (spl L oz (pre++[q+1])) (oz+(i+1)) (xs.drop (i+1)))->Fr [bz] w1.drew.drew w2->VecPost 51 w bz oz n L (fun zs c=>0<=c/\c<=1/\val 18446744073709551616 zs+18446744073709551616^n*c=val 18446744073709551616 xs+y) (.returned (.int .u64 0)) w2:=by
      intro w2 row2 f2;have hlp:(pre++[q+1]).length=i+1:=by simp[HL.out]
      rw[<-hlp,spl_app (by rw[hlp];omega),hlp]at row2;refine⟨(pre++[q+1])++xs.drop (i+1),0,rfl,row2,fr_same HF1.out.drew.drew f2,?_,DG.append (DG.append hdg (DG.cons (by omega) (by omega) (DG.nil _))) (HDx.out.drop (i+1)),by omega,by omega,?_⟩
      ·rw[List.length_append,List.length_drop,HNx.out,hlp];omega
      ·have e:=val_split 18446744073709551616 xs (i+1) (by rw[HNx.out];omega)
       have h:=HV.out;rw[val_take_succ',<- Hq.out]at e;rw[e,val_append,val_snoc,HL.out,hlp,Int.mul_zero,Int.add_zero,Int.mul_add,Int.mul_one];rw[Int.mul_one]at h;omega
     have HFIN:=κ FIN;have HLP:spl L oz (pre++[q+1])=spl L oz (pre++[q+1])/\(spl L oz (pre++[q+1])).length=L.length:=⟨rfl,spl_len (by simp[HL.out];omega)⟩;have HLX:=κ (show oz+(i+1)+(n-(i+1))<=(spl L oz (pre++[q+1])).length by rw[HLP.2];omega);have HLD:=κ (show(xs.drop (i+1)).length=n-(i+1)by rw[List.length_drop,HNx.out]);obtain⟨LL,hLL⟩: ∃LL,LL=spl L oz (pre++[q+1]):=⟨_,rfl⟩;rw[<-hLL]at HFIN HLX HROW1;clear FIN HLP hLL hw;go_region;go_wp2_with fail;clear hq;have HDP:=κ (show 0<n-(i+1)->(if kz=i+1 then some (⟨bz,oz,none⟩:Addr)else some ⟨bz,oz+(i+1),none⟩)=some ⟨bz,oz+(i+1),none⟩/\(if kx=i+1 then some (⟨bx,ox,none⟩:Addr)else some ⟨bx,ox+(i+1),none⟩)=some ⟨bx,ox+(i+1),none⟩from fun hp=>⟨by rw[if_neg (by omega)],by rw[if_neg (by omega)]⟩);have HSD:=κ (show Go.Big.Src .u64 w1.drew.drew bx (ox+(i+1)) (xs.drop (i+1))from HS1.out.drop (i+1));have HRD:=κ (show Row .u64 51 w1.drew.drew bz LL from HROW1.out.drew.drew);go_region_law (refine step_copy rfl (.tmp 69) (.tmp 73) _ _ rfl .u64 51 Tryz.underlying42 size_wordV (if kz=i+1 then some ⟨bz,oz,none⟩else some ⟨bz,oz+(i+1),none⟩) (if kx=i+1 then some ⟨bx,ox,none⟩else some ⟨bx,ox+(i+1),none⟩) (n-(i+1)) (kz-(i+1)) (kx-(i+1)) (by simp[Act.eval,Act.put]) (xs.drop (i+1)) (by simp[Act.eval,Act.put]) HLD.out bx (ox+(i+1)) HSD.out bz (oz+(i+1)) LL HRD.out HDP.out HLX.out ?_;intro w2 row2 f2;have G2:=κ (HFIN.out w2 row2 f2);clear HFIN row2 f2);all_goals (go_wp2_with fail)
     all_goals go_ret
     all_goals exact G2.out
   ·obtain rfl:i=n:=by omega
    clear hrow hf hl hv;go_wp2_with fail;go_ret;have hv':=HV.out;rw[show xs.take i=xs from List.take_of_length_le (by rw[HNx.out];omega)]at hv';exact⟨pre,1,rfl,HROW.out,HF.out,HL.out,hdg,by omega,by omega,hv'⟩
theorem addVWi_any(bz oz kz kx n:Nat)(L xs:List Int)(y:Int)(w:World)(hz:Row .u64 51 w bz L)(hfit:oz+n<=L.length)(hnx:xs.length=n)(hsx:Go.Big.Src .u64 w bz oz xs)(hdx:DG 18446744073709551616 xs)(hn0:0<n)(hn9:n<=1000000000)(hkz:n<=kz)(hkx:n<=kx)(hkz9:kz<=maxLen)(hkx9:kx<=maxLen)(hy0:0<=y)(hy1:y<18446744073709551616):
 Calls Tryz.prog 44 #[.slice (some ⟨bz,oz,none⟩) n kz,.slice (some ⟨bz,oz,none⟩) n kx,.int .u64 y] w (VecPost 51 w bz oz n L (fun zs c=>0<=c/\c<=1/\val 18446744073709551616 zs+18446744073709551616^n*c=val 18446744073709551616 xs+y)):=by
 unfold maxLen at hkz9 hkx9;have HZ:=κ hz;have HNx:=κ hnx;have HSx:=κ hsx;have HDx:=κ hdx;have HSP:=κ (spl_self hz hsx (by omega));have hn0':(n:Int)≠0:=by omega
 have hn1':(1:Int)<=(n:Int):=by omega
 have cx0:=hsx 0 (by omega);obtain⟨x,hx⟩: ∃x,x=xs.getD 0 0:=⟨_,rfl⟩;rw[<-hx]at cx0;have hxd:=hdx.getD (by omega) 0;rw[<-hx]at hxd;obtain⟨hx0,hx1⟩:=hxd
 have ht1:val 18446744073709551616 (xs.take 1)=x:=by
  have e:=val_take_succ' 18446744073709551616 xs 0;rw[<-hx]at e;simpa[val_nil]using e
 have HT1:=κ ht1;have hfz:=hz.frozen (oz+0);simp only[Nat.add_zero]at cx0 hfz;obtain⟨s,hs⟩: ∃s,s=(x+y+0)%18446744073709551616:=⟨_,rfl⟩;obtain⟨c,hc⟩: ∃c,c=(x+y+0)/18446744073709551616:=⟨_,rfl⟩;have CA:=badd_any x y 0 w hx0 hx1 hy0 hy1 (by omega) (by omega);rw[<-hs,<- hc]at CA;have HCA:=κ CA;have hs0:0<=s/\s<18446744073709551616:=by omega
 have hc0:c=0\/c=1:=by omega
 have hsc:s+18446744073709551616*c=x+y:=by omega
 have HSC:=κ hsc;have HS0:=κ hs0
 have hrow1:Row .u64 51 (w.setCell ⟨bz,oz,none⟩ (.int .u64 s)) bz (spl L oz [s]):=by
  have h:=HZ.out.set oz s;have e:=spl_set_end (L:=L) (o:=oz) (cs:=[]) (by simp;omega) s;rw[spl_nil]at e;rw[show L.set oz s=spl L oz [s]from e]at h;exact h
 have hf1:Fr [bz] w (w.setCell ⟨bz,oz,none⟩ (.int .u64 s)):=by apply Fr.set _ (.inl (by simp));exact Fr.refl _ _
 have HROW1:=κ hrow1;have HF1:=κ hf1;clear hz hnx hsx hdx hx hs hc CA hs0 hsc ht1 hrow1 hf1;rcases hc0 with rfl|rfl
 ·go_enter Tryz.func44,Tryz.ntmps44
  go_wp2_with (go_at_call 74;refine(HCA.out).mono ?_;rintro e w1 ⟨rfl,rfl⟩);have hrow1:=HROW1.out;have hf1:=HF1.out;obtain⟨w1,hw1⟩: ∃w1,w1=w.setCell ⟨bz,oz,none⟩ (.int .u64 s):=⟨_,rfl⟩;clear HROW1 HF1;rw[<-hw1]at hrow1 hf1 ⊢
  clear hw1;have hq:=neq_ptrS ⟨bz,oz,none⟩ w1.drew;have HROW:=κ hrow1;have HF:=κ hf1;clear hrow1 hf1;go_region;go_wp2_with fail;all_goals go_ret
  all_goals (
   have row3:=HROW.out;rw[<-spl_pre (pre:=[s]) HSP.out (by rw[HNx.out];omega) (by rw[HNx.out];simp;omega)]at row3;refine⟨[s]++xs.drop 1,0,rfl,row3,HF.out.drew,?_,DG.append (DG.cons HS0.out.1 HS0.out.2 (DG.nil _)) (HDx.out.drop 1),by omega,by omega,?_⟩
   ·rw[List.length_append,List.length_drop,HNx.out];simp;omega
   ·have e:=val_split 18446744073709551616 xs 1 (by rw[HNx.out];omega)
    have h:=HSC.out;rw[HT1.out]at e;rw[e];simp[val_cons,val_nil];omega)
 ·have hh:val 18446744073709551616 [s]=s:=by simp[val_cons,val_nil]
  have HH:=κ hh;clear hh;go_enter Tryz.func44,Tryz.ntmps44;go_wp2_with (go_at_call 74;refine(HCA.out).mono ?_;rintro e w1 ⟨rfl,rfl⟩);go_loopg [9] (n-1) (fun g iv wr=> ∃(i:Nat) (pre:List Int),1<=i/\i<=n/\g=n-i/\iv= .int .i64 i/\Row .u64 51 wr bz (spl L oz pre)/\Fr [bz] w wr/\pre.length=i/\DG 18446744073709551616 pre/\val 18446744073709551616 pre+18446744073709551616^i*1=val 18446744073709551616 (xs.take i)+y)
  case atStart=>
   refine⟨1,[s],by omega,by omega,rfl,rfl,HROW1.out,HF1.out,rfl,DG.cons HS0.out.1 HS0.out.2 (DG.nil _),?_⟩;have h:=HSC.out;rw[HH.out,HT1.out];omega
  case round=>
   obtain⟨i,pre,hi1,hi,rfl,rfl,hrow,hf,hl,hdg,hv⟩:=hrel;have HL:=κ hl;have HV:=κ hv;have HROW:=κ hrow;have HF:=κ hf;clear HROW1 HF1 HSC HS0 HH HT1 HCA cx0 hfz;by_cases h1:i<n
   ·have hlen:(spl L oz pre).length=L.length:=spl_len (by omega)
    have HLEN:=κ hlen;have hfz:=hrow.frozen (oz+i);have cx:=HSx.out.spl HZ.out hrow hf (by omega) (j:=i) (by rw[HNx.out];exact h1) (.inr (.inr (by omega)));obtain⟨q,hq⟩: ∃q,q=xs.getD i 0:=⟨_,rfl⟩;rw[<-hq]at cx;have hqd:=HDx.out.getD (by omega) i;rw[<-hq]at hqd;obtain⟨hq0,hq1⟩:=hqd;have Hq:=κ hq;have ein:((i:Int)+1).toNat=i+1:=by omega
    have hwi:IntKind.i64.wrap ((i:Int)+1)=(i:Int)+1:=by rw[IntKind.wrap_i64];omega
    have hi1':(i:Int)+1<=(n:Int):=by omega
    have hi0':(0:Int)<=(i:Int)+1:=by omega
    clear hq hlen hl hv hrow hf;by_cases h2:q=18446744073709551615
    ·subst h2
     go_wp2_with fail;go_roundg (n-(i+1));case measure=>omega
     case rel=>
      have e:oz+i=oz+pre.length:=by rw[HL.out]
      refine⟨i+1,pre++[0],by omega,by omega,rfl,by go_num,?_,by repeat (first|exact HF.out|apply Fr.drewN|apply Fr.set _ (.inl (by simp))),by rw[List.length_append,HL.out];simp,hdg.append (DG.cons (by omega) (by omega) (DG.nil _)),?_⟩
      ·rw[<-spl_set_end (by rw[HL.out];omega),<- e];exact HROW.out.set _ _
      ·rw[val_snoc,HL.out,val_take_succ',<- Hq.out,Int.pow_succ]
       have h:=HV.out;grind
    ·have hw:IntKind.u64.wrap (q+1)=q+1:=IntWalk.u64_in _ (by omega)
     have hrow1:Row .u64 51 ((wr).setCell ⟨bz,oz+i,none⟩ (.int .u64 (q+1))) bz (spl L oz (pre++[q+1])):=by
      have h:=HROW.out.set (oz+i) (q+1);have e:oz+i=oz+pre.length:=by rw[HL.out]
      rw[<-spl_set_end (by rw[HL.out];omega),<- e];exact h
     have hf1:Fr [bz] w ((wr).setCell ⟨bz,oz+i,none⟩ (.int .u64 (q+1))):=by apply Fr.set _ (.inl (by simp));exact HF.out
     have HROW1:=κ hrow1;have HF1:=κ hf1;clear hrow1 hf1;go_wp2_with fail;have hrow1:=HROW1.out;have hf1:=HF1.out;obtain⟨w1,hw1⟩: ∃w1,w1=wr.setCell ⟨bz,oz+i,none⟩ (.int .u64 (q+1)):=⟨_,rfl⟩;clear HROW1 HF1;rw[<-hw1]at hrow1 hf1 ⊢
     clear hw1;have hq:=neq_ptrS ⟨bz,oz,none⟩ w1.drew;have hlp:(pre++[q+1]).length=i+1:=by simp[HL.out]
     have hsp:=spl_pre (pre:=pre++[q+1]) HSP.out (by rw[HNx.out];omega) (by rw[HNx.out,hlp];omega);rw[<-hsp,hlp]at hrow1;have HLP:=κ hlp;have HROW1:=κ hrow1;have HF1:=κ hf1;clear hrow1 hf1 cx hfz HROW HF hlp hsp hw;go_region;go_wp2_with fail;clear hq;all_goals go_ret
     all_goals (
      refine⟨(pre++[q+1])++xs.drop (i+1),0,rfl,HROW1.out,HF1.out.drew,?_,DG.append (DG.append hdg (DG.cons (by omega) (by omega) (DG.nil _))) (HDx.out.drop (i+1)),by omega,by omega,?_⟩
      ·rw[List.length_append,List.length_drop,HNx.out,HLP.out];omega
      ·have e:=val_split 18446744073709551616 xs (i+1) (by rw[HNx.out];omega)
       have h:=HV.out;rw[val_take_succ',<- Hq.out]at e;rw[e,val_append,val_snoc,HL.out,HLP.out,Int.mul_zero,Int.add_zero,Int.mul_add,Int.mul_one];rw[Int.mul_one]at h;omega)
   ·obtain rfl:i=n:=by omega
    clear hrow hf hl hv;go_wp2_with fail;go_ret;have hv':=HV.out;rw[show xs.take i=xs from List.take_of_length_le (by rw[HNx.out];omega)]at hv';exact⟨pre,1,rfl,HROW.out,HF.out,HL.out,hdg,by omega,by omega,hv'⟩
theorem addVWw_any(bz oz cz bx ox cx n:Nat)(L xs:List Int)(y:Int)(w:World)(hz:Wr 51 w bz oz L)(hL:L.length=n)(hnx:xs.length=n)(hx:Wr 51 w bx ox xs)(hdx:DG 18446744073709551616 xs)(hal:Dj bx ox n bz oz n\/(bx=bz/\ox=oz))(hn0:0<n)(hn9:n<=1000000000)(hkz:n<=cz)(hkx:n<=cx)(hkz9:cz<=maxLen)(hkx9:cx<=maxLen)(hy0:0<=y)(hy1:y<18446744073709551616):
 Calls Tryz.prog 44 #[.slice (some ⟨bz,oz,none⟩) n cz,.slice (some ⟨bx,ox,none⟩) n cx,.int .u64 y] w (VecW w bz oz n (fun zs c=>0<=c/\c<=1/\val 18446744073709551616 zs+18446744073709551616^n*c=val 18446744073709551616 xs+y)):=by
 obtain⟨_,M,hM,hl⟩:=hz;rcases hal with hal|⟨rfl,rfl⟩
 ·obtain⟨hs,X,hX,_⟩:=hx
  exact(addVWd_any bz oz cz bx ox cx n M xs y w hM (by omega) hnx hs hdx X hX (by unfold Dj at hal;omega) hn0 hn9 hkz hkx hkz9 hkx9 hy0 hy1).mono fun e w' h=>VecPost.w h hM (by omega)
 ·exact(addVWi_any bx ox cz cx n M xs y w hM (by omega) hnx hx.src hdx hn0 hn9 hkz hkx hkz9 hkx9 hy0 hy1).mono fun e w' h=>VecPost.w h hM (by omega)
theorem subVWd_any(bz oz kz bx ox kx n:Nat)(L xs:List Int)(y:Int)(w:World)(hz:Row .u64 51 w bz L)(hfit:oz+n<=L.length)(hnx:xs.length=n)(hsx:Go.Big.Src .u64 w bx ox xs)(hdx:DG 18446744073709551616 xs)(X:List Int)(hX:Row .u64 51 w bx X)(hne:bx≠bz\/ox+n<=oz\/oz+n<=ox)(hn0:0<n)(hn9:n<=1000000000)(hkz:n<=kz)(hkx:n<=kx)(hkz9:kz<=maxLen)(hkx9:kx<=maxLen)(hy0:0<=y)(hy1:y<18446744073709551616):
 Calls Tryz.prog 72 #[.slice (some ⟨bz,oz,none⟩) n kz,.slice (some ⟨bx,ox,none⟩) n kx,.int .u64 y] w (VecPost 51 w bz oz n L (fun zs c=>0<=c/\c<=1/\val 18446744073709551616 zs+y=val 18446744073709551616 xs+18446744073709551616^n*c)):=by
 unfold maxLen at hkz9 hkx9;have HZ:=κ hz;have HNx:=κ hnx;have HSx:=κ hsx;have HDx:=κ hdx;have HX:=κ hX;have hna:(⟨bz,oz,none⟩:Addr)≠⟨bx,ox,none⟩:=by intro e;injection e with e1 e2;omega
 have HNE:=κ hne;have HNA:=κ hna;clear hne hna;have hn0':(n:Int)≠0:=by omega
 have hn1':(1:Int)<=(n:Int):=by omega
 have cx0:=hsx 0 (by omega);obtain⟨x,hx⟩: ∃x,x=xs.getD 0 0:=⟨_,rfl⟩;rw[<-hx]at cx0;have hxd:=hdx.getD (by omega) 0;rw[<-hx]at hxd;obtain⟨hx0,hx1⟩:=hxd
 have ht1:val 18446744073709551616 (xs.take 1)=x:=by
  have e:=val_take_succ' 18446744073709551616 xs 0;rw[<-hx]at e;simpa[val_nil]using e
 have HT1:=κ ht1;have hfz:=hz.frozen (oz+0);have cz:=hz.cell (i:=oz+0) (by omega);obtain⟨old,hold⟩: ∃old,old=L.getD (oz+0) 0:=⟨_,rfl⟩;rw[<-hold]at cz;simp only[Nat.add_zero]at cz cx0 hfz;obtain⟨s,hs⟩: ∃s,s=(x-y-0)%18446744073709551616:=⟨_,rfl⟩;obtain⟨c,hc⟩: ∃c,c=borrow x y 0:=⟨_,rfl⟩;have CA:=bsub_any x y 0 w hx0 hx1 hy0 hy1 (by omega) (by omega);rw[<-hs,<- hc]at CA;have HCA:=κ CA;have hs0:0<=s/\s<18446744073709551616:=by omega
 have hc0:c=0\/c=1:=by rw[hc];unfold borrow;split<;>omega
 have hsc:s+y=x+18446744073709551616*c:=by have e:=borrow_eq hx0 hx1 hy0 hy1 (show(0:Int)<=0 by omega) (by omega);rw[<-hs,<- hc]at e;omega
 have HSC:=κ hsc;have HS0:=κ hs0
 have hrow1:Row .u64 51 (w.setCell ⟨bz,oz,none⟩ (.int .u64 s)) bz (spl L oz [s]):=by
  have h:=HZ.out.set oz s;have e:=spl_set_end (L:=L) (o:=oz) (cs:=[]) (by simp;omega) s;rw[spl_nil]at e;rw[show L.set oz s=spl L oz [s]from e]at h;exact h
 have hf1:Fr [bz] w (w.setCell ⟨bz,oz,none⟩ (.int .u64 s)):=by apply Fr.set _ (.inl (by simp));exact Fr.refl _ _
 have HROW1:=κ hrow1;have HF1:=κ hf1;clear hz hnx hsx hdx hx hold hs hc CA hs0 hsc hX ht1 hrow1 hf1;rcases hc0 with rfl|rfl
 ·go_enter Tryz.func72,Tryz.ntmps72
  go_wp2_with (go_at_call 106;refine(HCA.out).mono ?_;rintro e w1 ⟨rfl,rfl⟩);have hrow1:=HROW1.out;have hf1:=HF1.out;obtain⟨X1,hX1⟩:=row_or (L:=L) HX.out hrow1 hf1;have hs1:=HSx.out.keep HZ.out hrow1 hf1 (by simp;omega) (by have:=HNE.out;rw[HNx.out];unfold Apart;simp;omega);obtain⟨w1,hw1⟩: ∃w1,w1=w.setCell ⟨bz,oz,none⟩ (.int .u64 s):=⟨_,rfl⟩;clear HROW1 HF1;rw[<-hw1]at hrow1 hf1 hX1 hs1 ⊢
  clear hw1;have hq:=neq_ptrA (a:=⟨bz,oz,none⟩) (c:=⟨bx,ox,none⟩) w1.drew HNA.out hrow1.drew hX1.drew;have HROW:=κ hrow1;have HF:=κ hf1;have HS1:=κ hs1;clear hrow1 hf1 hX1 hs1;go_region;go_wp2_with fail;go_region_law (refine step_copy rfl (.tmp 40) (.tmp 42) _ _ rfl .u64 51 Tryz.underlying42 size_wordV _ _ (n-1) (kz-1) (kx-1) rfl (xs.drop 1) rfl (by rw[List.length_drop,HNx.out]) bx (ox+1) (HS1.out.drop 1) bz (oz+1) (spl L oz [s]) HROW.out.drew.drew (fun hp=>⟨by rw[if_neg (by omega)],by rw[if_neg (by omega)]⟩) (by rw[spl_len (by simp;omega)];omega) ?_;intro w2 row2 f2);all_goals (go_wp2_with fail)
  all_goals go_ret
  all_goals (
   have row3:=row2;rw[show oz+1=oz+[s].length from rfl,spl_app (by simp;omega)]at row3;refine⟨[s]++xs.drop 1,0,rfl,row3,fr_same HF.out.drew.drew f2,?_,DG.append (DG.cons HS0.out.1 HS0.out.2 (DG.nil _)) (HDx.out.drop 1),by omega,by omega,?_⟩
   ·rw[List.length_append,List.length_drop,HNx.out];simp;omega
   ·have e:=val_split 18446744073709551616 xs 1 (by rw[HNx.out];omega)
    have h:=HSC.out;rw[HT1.out]at e;rw[e];simp[val_cons,val_nil];omega)
 ·have hh:val 18446744073709551616 [s]=s:=by simp[val_cons,val_nil]
  have HH:=κ hh;clear hh;go_enter Tryz.func72,Tryz.ntmps72;go_wp2_with (go_at_call 106;refine(HCA.out).mono ?_;rintro e w1 ⟨rfl,rfl⟩);go_loopg [9] (n-1) (fun g iv wr=> ∃(i:Nat) (pre:List Int),1<=i/\i<=n/\g=n-i/\iv= .int .i64 i/\Row .u64 51 wr bz (spl L oz pre)/\Fr [bz] w wr/\pre.length=i/\DG 18446744073709551616 pre/\val 18446744073709551616 pre+y=val 18446744073709551616 (xs.take i)+18446744073709551616^i*1)
  case atStart=>
   refine⟨1,[s],by omega,by omega,rfl,rfl,HROW1.out,HF1.out,rfl,DG.cons HS0.out.1 HS0.out.2 (DG.nil _),?_⟩;have h:=HSC.out;rw[HH.out,HT1.out];omega
  case round=>
   obtain⟨i,pre,hi1,hi,rfl,rfl,hrow,hf,hl,hdg,hv⟩:=hrel;have HL:=κ hl;have HV:=κ hv;have HROW:=κ hrow;have HF:=κ hf;clear HROW1 HF1 HSC HS0 HH HT1 HCA cx0 cz hfz;by_cases h1:i<n
   ·have hlen:(spl L oz pre).length=L.length:=spl_len (by omega)
    have HLEN:=κ hlen;have hfz:=hrow.frozen (oz+i);have cz:=hrow.cell (i:=oz+i) (by omega);obtain⟨old,hold⟩: ∃old,old=(spl L oz pre).getD (oz+i) 0:=⟨_,rfl⟩;rw[<-hold]at cz;have cx:=(HSx.out.keep HZ.out hrow hf (by omega) (by have:=HNE.out;rw[HNx.out];unfold Apart;omega)) i (by rw[HNx.out];exact h1);obtain⟨q,hq⟩: ∃q,q=xs.getD i 0:=⟨_,rfl⟩;rw[<-hq]at cx;have hqd:=HDx.out.getD (by omega) i;rw[<-hq]at hqd;obtain⟨hq0,hq1⟩:=hqd;have Hq:=κ hq;have ein:((i:Int)+1).toNat=i+1:=by omega
    have hwi:IntKind.i64.wrap ((i:Int)+1)=(i:Int)+1:=by rw[IntKind.wrap_i64];omega
    have hi1':(i:Int)+1<=(n:Int):=by omega
    have hi0':(0:Int)<=(i:Int)+1:=by omega
    clear hq hold hlen hl hv hrow hf;by_cases h2:q=0
    ·subst h2
     go_wp2_with fail;go_roundg (n-(i+1));case measure=>omega
     case rel=>
      have e:oz+i=oz+pre.length:=by rw[HL.out]
      refine⟨i+1,pre++[18446744073709551615],by omega,by omega,rfl,by go_num,?_,by repeat (first|exact HF.out|apply Fr.drewN|apply Fr.set _ (.inl (by simp))),by rw[List.length_append,HL.out];simp,hdg.append (DG.cons (by omega) (by omega) (DG.nil _)),?_⟩
      ·rw[<-spl_set_end (by rw[HL.out];omega),<- e];exact HROW.out.set _ _
      ·rw[val_snoc,HL.out,val_take_succ',<- Hq.out,Int.pow_succ]
       have h:=HV.out;grind
    ·have hw:IntKind.u64.wrap (q-1)=q-1:=IntWalk.u64_in _ (by omega)
     have hrow1:Row .u64 51 ((wr).setCell ⟨bz,oz+i,none⟩ (.int .u64 (q-1))) bz (spl L oz (pre++[q-1])):=by
      have h:=HROW.out.set (oz+i) (q-1);have e:oz+i=oz+pre.length:=by rw[HL.out]
      rw[<-spl_set_end (by rw[HL.out];omega),<- e];exact h
     have hf1:Fr [bz] w ((wr).setCell ⟨bz,oz+i,none⟩ (.int .u64 (q-1))):=by apply Fr.set _ (.inl (by simp));exact HF.out
     have HROW1:=κ hrow1;have HF1:=κ hf1;clear hrow1 hf1;go_wp2_with fail;have hrow1:=HROW1.out;have hf1:=HF1.out;obtain⟨X1,hX1⟩:=row_or (L:=L) HX.out hrow1 hf1;have hs1:=HSx.out.keep HZ.out hrow1 hf1 (by simp[HL.out];omega) (by have:=HNE.out;rw[HNx.out];unfold Apart;simp[HL.out];omega);obtain⟨w1,hw1⟩: ∃w1,w1=wr.setCell ⟨bz,oz+i,none⟩ (.int .u64 (q-1)):=⟨_,rfl⟩;clear HROW1 HF1;rw[<-hw1]at hrow1 hf1 hX1 hs1 ⊢
     clear hw1;have hq:=neq_ptrA (a:=⟨bz,oz,none⟩) (c:=⟨bx,ox,none⟩) w1.drew HNA.out hrow1.drew hX1.drew;have HROW1:=κ hrow1;have HF1:=κ hf1;have HS1:=κ hs1;clear hrow1 hf1 hX1 hs1 cx cz hfz HROW HF
     have FIN: ∀w2,Row .u64 51 w2 bz (spl (spl L oz (pre++[q-1])) (oz+(i+1)) (xs.drop (i+1)))->Fr [bz] w1.drew.drew w2->VecPost 51 w bz oz n L (fun zs c=>0<=c/\c<=1/\val 18446744073709551616 zs+y=val 18446744073709551616 xs+18446744073709551616^n*c) (.returned (.int .u64 0)) w2:=by
      intro w2 row2 f2;have hlp:(pre++[q-1]).length=i+1:=by simp[HL.out]
      rw[<-hlp,spl_app (by rw[hlp];omega),hlp]at row2;refine⟨(pre++[q-1])++xs.drop (i+1),0,rfl,row2,fr_same HF1.out.drew.drew f2,?_,DG.append (DG.append hdg (DG.cons (by omega) (by omega) (DG.nil _))) (HDx.out.drop (i+1)),by omega,by omega,?_⟩
      ·rw[List.length_append,List.length_drop,HNx.out,hlp];omega
      ·have e:=val_split 18446744073709551616 xs (i+1) (by rw[HNx.out];omega)
       have h:=HV.out;rw[val_take_succ',<- Hq.out]at e;rw[e,val_append,val_snoc,HL.out,hlp,Int.mul_zero,Int.add_zero,Int.mul_sub,Int.mul_one];rw[Int.mul_one]at h;omega
     have HFIN:=κ FIN;have HLP:spl L oz (pre++[q-1])=spl L oz (pre++[q-1])/\(spl L oz (pre++[q-1])).length=L.length:=⟨rfl,spl_len (by simp[HL.out];omega)⟩;have HLX:=κ (show oz+(i+1)+(n-(i+1))<=(spl L oz (pre++[q-1])).length by rw[HLP.2];omega);have HLD:=κ (show(xs.drop (i+1)).length=n-(i+1)by rw[List.length_drop,HNx.out]);obtain⟨LL,hLL⟩: ∃LL,LL=spl L oz (pre++[q-1]):=⟨_,rfl⟩;rw[<-hLL]at HFIN HLX HROW1;clear FIN HLP hLL hw;go_region;go_wp2_with fail;clear hq;have HDP:=κ (show 0<n-(i+1)->(if kz=i+1 then some (⟨bz,oz,none⟩:Addr)else some ⟨bz,oz+(i+1),none⟩)=some ⟨bz,oz+(i+1),none⟩/\(if kx=i+1 then some (⟨bx,ox,none⟩:Addr)else some ⟨bx,ox+(i+1),none⟩)=some ⟨bx,ox+(i+1),none⟩from fun hp=>⟨by rw[if_neg (by omega)],by rw[if_neg (by omega)]⟩);have HSD:=κ (show Go.Big.Src .u64 w1.drew.drew bx (ox+(i+1)) (xs.drop (i+1))from HS1.out.drop (i+1));have HRD:=κ (show Row .u64 51 w1.drew.drew bz LL from HROW1.out.drew.drew);go_region_law (refine step_copy rfl (.tmp 69) (.tmp 73) _ _ rfl .u64 51 Tryz.underlying42 size_wordV (if kz=i+1 then some ⟨bz,oz,none⟩else some ⟨bz,oz+(i+1),none⟩) (if kx=i+1 then some ⟨bx,ox,none⟩else some ⟨bx,ox+(i+1),none⟩) (n-(i+1)) (kz-(i+1)) (kx-(i+1)) (by simp[Act.eval,Act.put]) (xs.drop (i+1)) (by simp[Act.eval,Act.put]) HLD.out bx (ox+(i+1)) HSD.out bz (oz+(i+1)) LL HRD.out HDP.out HLX.out ?_;intro w2 row2 f2;have G2:=κ (HFIN.out w2 row2 f2);clear HFIN row2 f2);all_goals (go_wp2_with fail)
     all_goals go_ret
     all_goals exact G2.out
   ·obtain rfl:i=n:=by omega
    clear hrow hf hl hv;go_wp2_with fail;go_ret;have hv':=HV.out;rw[show xs.take i=xs from List.take_of_length_le (by rw[HNx.out];omega)]at hv';exact⟨pre,1,rfl,HROW.out,HF.out,HL.out,hdg,by omega,by omega,hv'⟩
theorem subVWi_any(bz oz kz kx n:Nat)(L xs:List Int)(y:Int)(w:World)(hz:Row .u64 51 w bz L)(hfit:oz+n<=L.length)(hnx:xs.length=n)(hsx:Go.Big.Src .u64 w bz oz xs)(hdx:DG 18446744073709551616 xs)(hn0:0<n)(hn9:n<=1000000000)(hkz:n<=kz)(hkx:n<=kx)(hkz9:kz<=maxLen)(hkx9:kx<=maxLen)(hy0:0<=y)(hy1:y<18446744073709551616):
 Calls Tryz.prog 72 #[.slice (some ⟨bz,oz,none⟩) n kz,.slice (some ⟨bz,oz,none⟩) n kx,.int .u64 y] w (VecPost 51 w bz oz n L (fun zs c=>0<=c/\c<=1/\val 18446744073709551616 zs+y=val 18446744073709551616 xs+18446744073709551616^n*c)):=by
 unfold maxLen at hkz9 hkx9;have HZ:=κ hz;have HNx:=κ hnx;have HSx:=κ hsx;have HDx:=κ hdx;have HSP:=κ (spl_self hz hsx (by omega));have hn0':(n:Int)≠0:=by omega
 have hn1':(1:Int)<=(n:Int):=by omega
 have cx0:=hsx 0 (by omega);obtain⟨x,hx⟩: ∃x,x=xs.getD 0 0:=⟨_,rfl⟩;rw[<-hx]at cx0;have hxd:=hdx.getD (by omega) 0;rw[<-hx]at hxd;obtain⟨hx0,hx1⟩:=hxd
 have ht1:val 18446744073709551616 (xs.take 1)=x:=by
  have e:=val_take_succ' 18446744073709551616 xs 0;rw[<-hx]at e;simpa[val_nil]using e
 have HT1:=κ ht1;have hfz:=hz.frozen (oz+0);simp only[Nat.add_zero]at cx0 hfz;obtain⟨s,hs⟩: ∃s,s=(x-y-0)%18446744073709551616:=⟨_,rfl⟩;obtain⟨c,hc⟩: ∃c,c=borrow x y 0:=⟨_,rfl⟩;have CA:=bsub_any x y 0 w hx0 hx1 hy0 hy1 (by omega) (by omega);rw[<-hs,<- hc]at CA;have HCA:=κ CA;have hs0:0<=s/\s<18446744073709551616:=by omega
 have hc0:c=0\/c=1:=by rw[hc];unfold borrow;split<;>omega
 have hsc:s+y=x+18446744073709551616*c:=by have e:=borrow_eq hx0 hx1 hy0 hy1 (show(0:Int)<=0 by omega) (by omega);rw[<-hs,<- hc]at e;omega
 have HSC:=κ hsc;have HS0:=κ hs0
 have hrow1:Row .u64 51 (w.setCell ⟨bz,oz,none⟩ (.int .u64 s)) bz (spl L oz [s]):=by
  have h:=HZ.out.set oz s;have e:=spl_set_end (L:=L) (o:=oz) (cs:=[]) (by simp;omega) s;rw[spl_nil]at e;rw[show L.set oz s=spl L oz [s]from e]at h;exact h
 have hf1:Fr [bz] w (w.setCell ⟨bz,oz,none⟩ (.int .u64 s)):=by apply Fr.set _ (.inl (by simp));exact Fr.refl _ _
 have HROW1:=κ hrow1;have HF1:=κ hf1;clear hz hnx hsx hdx hx hs hc CA hs0 hsc ht1 hrow1 hf1;rcases hc0 with rfl|rfl
 ·go_enter Tryz.func72,Tryz.ntmps72
  go_wp2_with (go_at_call 106;refine(HCA.out).mono ?_;rintro e w1 ⟨rfl,rfl⟩);have hrow1:=HROW1.out;have hf1:=HF1.out;obtain⟨w1,hw1⟩: ∃w1,w1=w.setCell ⟨bz,oz,none⟩ (.int .u64 s):=⟨_,rfl⟩;clear HROW1 HF1;rw[<-hw1]at hrow1 hf1 ⊢
  clear hw1;have hq:=neq_ptrS ⟨bz,oz,none⟩ w1.drew;have HROW:=κ hrow1;have HF:=κ hf1;clear hrow1 hf1;go_region;go_wp2_with fail;all_goals go_ret
  all_goals (
   have row3:=HROW.out;rw[<-spl_pre (pre:=[s]) HSP.out (by rw[HNx.out];omega) (by rw[HNx.out];simp;omega)]at row3;refine⟨[s]++xs.drop 1,0,rfl,row3,HF.out.drew,?_,DG.append (DG.cons HS0.out.1 HS0.out.2 (DG.nil _)) (HDx.out.drop 1),by omega,by omega,?_⟩
   ·rw[List.length_append,List.length_drop,HNx.out];simp;omega
   ·have e:=val_split 18446744073709551616 xs 1 (by rw[HNx.out];omega)
    have h:=HSC.out;rw[HT1.out]at e;rw[e];simp[val_cons,val_nil];omega)
 ·have hh:val 18446744073709551616 [s]=s:=by simp[val_cons,val_nil]
  have HH:=κ hh;clear hh;go_enter Tryz.func72,Tryz.ntmps72;go_wp2_with (go_at_call 106;refine(HCA.out).mono ?_;rintro e w1 ⟨rfl,rfl⟩);go_loopg [9] (n-1) (fun g iv wr=> ∃(i:Nat) (pre:List Int),1<=i/\i<=n/\g=n-i/\iv= .int .i64 i/\Row .u64 51 wr bz (spl L oz pre)/\Fr [bz] w wr/\pre.length=i/\DG 18446744073709551616 pre/\val 18446744073709551616 pre+y=val 18446744073709551616 (xs.take i)+18446744073709551616^i*1)
  case atStart=>
   refine⟨1,[s],by omega,by omega,rfl,rfl,HROW1.out,HF1.out,rfl,DG.cons HS0.out.1 HS0.out.2 (DG.nil _),?_⟩;have h:=HSC.out;rw[HH.out,HT1.out];omega
  case round=>
   obtain⟨i,pre,hi1,hi,rfl,rfl,hrow,hf,hl,hdg,hv⟩:=hrel;have HL:=κ hl;have HV:=κ hv;have HROW:=κ hrow;have HF:=κ hf;clear HROW1 HF1 HSC HS0 HH HT1 HCA cx0 hfz;by_cases h1:i<n
   ·have hlen:(spl L oz pre).length=L.length:=spl_len (by omega)
    have HLEN:=κ hlen;have hfz:=hrow.frozen (oz+i);have cx:=HSx.out.spl HZ.out hrow hf (by omega) (j:=i) (by rw[HNx.out];exact h1) (.inr (.inr (by omega)));obtain⟨q,hq⟩: ∃q,q=xs.getD i 0:=⟨_,rfl⟩;rw[<-hq]at cx;have hqd:=HDx.out.getD (by omega) i;rw[<-hq]at hqd;obtain⟨hq0,hq1⟩:=hqd;have Hq:=κ hq;have ein:((i:Int)+1).toNat=i+1:=by omega
    have hwi:IntKind.i64.wrap ((i:Int)+1)=(i:Int)+1:=by rw[IntKind.wrap_i64];omega
    have hi1':(i:Int)+1<=(n:Int):=by omega
    have hi0':(0:Int)<=(i:Int)+1:=by omega
    clear hq hlen hl hv hrow hf;by_cases h2:q=0
    ·subst h2
     go_wp2_with fail;go_roundg (n-(i+1));case measure=>omega
     case rel=>
      have e:oz+i=oz+pre.length:=by rw[HL.out]
      refine⟨i+1,pre++[18446744073709551615],by omega,by omega,rfl,by go_num,?_,by repeat (first|exact HF.out|apply Fr.drewN|apply Fr.set _ (.inl (by simp))),by rw[List.length_append,HL.out];simp,hdg.append (DG.cons (by omega) (by omega) (DG.nil _)),?_⟩
      ·rw[<-spl_set_end (by rw[HL.out];omega),<- e];exact HROW.out.set _ _
      ·rw[val_snoc,HL.out,val_take_succ',<- Hq.out,Int.pow_succ]
       have h:=HV.out;grind
    ·have hw:IntKind.u64.wrap (q-1)=q-1:=IntWalk.u64_in _ (by omega)
     have hrow1:Row .u64 51 ((wr).setCell ⟨bz,oz+i,none⟩ (.int .u64 (q-1))) bz (spl L oz (pre++[q-1])):=by
      have h:=HROW.out.set (oz+i) (q-1);have e:oz+i=oz+pre.length:=by rw[HL.out]
      rw[<-spl_set_end (by rw[HL.out];omega),<- e];exact h
     have hf1:Fr [bz] w ((wr).setCell ⟨bz,oz+i,none⟩ (.int .u64 (q-1))):=by apply Fr.set _ (.inl (by simp));exact HF.out
     have HROW1:=κ hrow1;have HF1:=κ hf1;clear hrow1 hf1;go_wp2_with fail;have hrow1:=HROW1.out;have hf1:=HF1.out;obtain⟨w1,hw1⟩: ∃w1,w1=wr.setCell ⟨bz,oz+i,none⟩ (.int .u64 (q-1)):=⟨_,rfl⟩;clear HROW1 HF1;rw[<-hw1]at hrow1 hf1 ⊢
     clear hw1;have hq:=neq_ptrS ⟨bz,oz,none⟩ w1.drew;have hlp:(pre++[q-1]).length=i+1:=by simp[HL.out]
     have hsp:=spl_pre (pre:=pre++[q-1]) HSP.out (by rw[HNx.out];omega) (by rw[HNx.out,hlp];omega);rw[<-hsp,hlp]at hrow1;have HLP:=κ hlp;have HROW1:=κ hrow1;have HF1:=κ hf1;clear hrow1 hf1 cx hfz HROW HF hlp hsp hw;go_region;go_wp2_with fail;clear hq;all_goals go_ret
     all_goals (
      refine⟨(pre++[q-1])++xs.drop (i+1),0,rfl,HROW1.out,HF1.out.drew,?_,DG.append (DG.append hdg (DG.cons (by omega) (by omega) (DG.nil _))) (HDx.out.drop (i+1)),by omega,by omega,?_⟩
      ·rw[List.length_append,List.length_drop,HNx.out,HLP.out];omega
      ·have e:=val_split 18446744073709551616 xs (i+1) (by rw[HNx.out];omega)
       have h:=HV.out;rw[val_take_succ',<- Hq.out]at e;rw[e,val_append,val_snoc,HL.out,HLP.out,Int.mul_zero,Int.add_zero,Int.mul_sub,Int.mul_one];rw[Int.mul_one]at h;omega)
   ·obtain rfl:i=n:=by omega
    clear hrow hf hl hv;go_wp2_with fail;go_ret;have hv':=HV.out;rw[show xs.take i=xs from List.take_of_length_le (by rw[HNx.out];omega)]at hv';exact⟨pre,1,rfl,HROW.out,HF.out,HL.out,hdg,by omega,by omega,hv'⟩
theorem subVWw_any(bz oz cz bx ox cx n:Nat)(L xs:List Int)(y:Int)(w:World)(hz:Wr 51 w bz oz L)(hL:L.length=n)(hnx:xs.length=n)(hx:Wr 51 w bx ox xs)(hdx:DG 18446744073709551616 xs)(hal:Dj bx ox n bz oz n\/(bx=bz/\ox=oz))(hn0:0<n)(hn9:n<=1000000000)(hkz:n<=cz)(hkx:n<=cx)(hkz9:cz<=maxLen)(hkx9:cx<=maxLen)(hy0:0<=y)(hy1:y<18446744073709551616):
 Calls Tryz.prog 72 #[.slice (some ⟨bz,oz,none⟩) n cz,.slice (some ⟨bx,ox,none⟩) n cx,.int .u64 y] w (VecW w bz oz n (fun zs c=>0<=c/\c<=1/\val 18446744073709551616 zs+y=val 18446744073709551616 xs+18446744073709551616^n*c)):=by
 obtain⟨_,M,hM,hl⟩:=hz;rcases hal with hal|⟨rfl,rfl⟩
 ·obtain⟨hs,X,hX,_⟩:=hx
  exact(subVWd_any bz oz cz bx ox cx n M xs y w hM (by omega) hnx hs hdx X hX (by unfold Dj at hal;omega) hn0 hn9 hkz hkx hkz9 hkx9 hy0 hy1).mono fun e w' h=>VecPost.w h hM (by omega)
 ·exact(subVWi_any bx ox cz cx n M xs y w hM (by omega) hnx hx.src hdx hn0 hn9 hkz hkx hkz9 hkx9 hy0 hy1).mono fun e w' h=>VecPost.w h hM (by omega)
end Go.Proofs.YthecibbmbnpegaaGreatDoor
