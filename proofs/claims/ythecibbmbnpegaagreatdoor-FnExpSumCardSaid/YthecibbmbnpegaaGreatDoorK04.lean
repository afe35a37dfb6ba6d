/-
  Part 4 of the proof of the law FnExpSum: XgVec, XNormed, XFew. Conditions: those of each statement.
-/
import Derived.Test.YthecibbmbnpegaaGreatDoorK03
import Derived.Deep.QuietTactic
import Derived.BigQuiet
import Derived.Deep.RegionLaw
import Derived.LaidEqlPtr
set_option linter.unusedSimpArgs false
set_option linter.unusedVariables false
set_option maxRecDepth 100000
set_option maxHeartbeats 4000000
section
namespace Go.Proofs.YthecibbmbnpegaaGreatDoor
open Go.Big Go.RowKit
theorem q_left{P:Program}{f:FuncId}{args:Array Value}{w:World}{n:Nat}{v:Value}(h:Calls P f args (w.drewN n) fun e w'=>e= .returned v/\w.drewN n=w'):
 Calls P f args (w.drewN n) fun e w''=>e= .returned v/\ ∃m,w''=w.drewN m:=h.mono fun _ _ ⟨he,hm⟩=>⟨he,n,hm.symm⟩
def VecPost(T:TypeId)(w:World)(bz oz n:Nat)(L:List Int)(R:List Int->Int->Prop)(e:Ending)(w':World):Prop:=
 ∃(zs:List Int) (c:Int),e= .returned (.int .u64 c)/\Row .u64 T w' bz (spl L oz zs)/\Fr [bz] w w'/\zs.length=n/\DG 18446744073709551616 zs/\R zs c
def VecRel(T:TypeId)(w:World)(bz oz n:Nat)(L:List Int)(R:Nat->List Int->Int->Prop)(g:Nat)(cv iv:Value)(wr:World):Prop:=
 ∃(i:Nat) (pre:List Int) (c:Int),i<=n/\g=n-i/\iv= .int .i64 i/\cv= .int .u64 c/\Row .u64 T wr bz (spl L oz pre)/\Fr [bz] w wr/\pre.length=i/\DG 18446744073709551616 pre/\R i pre c
def NoTouch(bz oz bx ox n:Nat):Prop:=bx≠bz\/oz<=ox\/ox+n<=oz
theorem addVV_any(bz oz cz bx ox cx by_ oy cy n:Nat)(L xs ys:List Int)(w:World)(hz:Row .u64 51 w bz L)(hfit:oz+n<=L.length)(hnx:xs.length=n)(hsx:Src .u64 w bx ox xs)(hdx:DG 18446744073709551616 xs)(halx:NoTouch bz oz bx ox n)
 (hny:ys.length=n)(hsy:Src .u64 w by_ oy ys)(hdy:DG 18446744073709551616 ys)(haly:NoTouch bz oz by_ oy n)(hn9:n<=1000000000):
 Calls Tryz.prog 73 #[.slice (some ⟨bz,oz,none⟩) n cz,.slice (some ⟨bx,ox,none⟩) n cx,.slice (some ⟨by_,oy,none⟩) n cy] w (VecPost 51 w bz oz n L (fun zs c=>0<=c/\c<=1/\val 18446744073709551616 zs+18446744073709551616^n*c=val 18446744073709551616 xs+val 18446744073709551616 ys)):=by
 have HZ:=κ hz;have HNx:=κ hnx;have HSx:=κ hsx;have HDx:=κ hdx;have HALx:=κ halx;clear hz hnx hsx hdx halx;have HNy:=κ hny;have HSy:=κ hsy;have HDy:=κ hdy;have HALy:=κ haly;clear hny hsy hdy haly;go_enter Tryz.func73,Tryz.ntmps73;go_wp2_with fail;go_loopg [6,25] n (VecRel 51 w bz oz n L (fun i pre c=>0<=c/\c<=1/\val 18446744073709551616 pre+18446744073709551616^i*c=val 18446744073709551616 (xs.take i)+val 18446744073709551616 (ys.take i)));case atStart=>exact⟨0,[],0,by omega,rfl,rfl,rfl,by rw[spl_nil];exact HZ.out,Fr.refl _ _,rfl,DG.nil _,by omega,by omega,by simp[val_nil]⟩
 case round=>
  obtain⟨i,pre,c,hi,rfl,rfl,rfl,hrow,hf,hl,hdg,hc0,hc1,hv⟩:=hrel;by_cases h1:i<n
  ·have hlen:(spl L oz pre).length=L.length:=spl_len (by omega)
   have hfz:=hrow.frozen (oz+i);have cz:=hrow.cell (i:=oz+i) (by omega);obtain⟨old,hold⟩: ∃old,old=(spl L oz pre).getD (oz+i) 0:=⟨_,rfl⟩;rw[<-hold]at cz;have HV:=κ hv;have HL:=κ hl;have HLEN:=κ hlen;have key:True:=trivial;have cx:=HSx.out.spl HZ.out hrow hf (by omega) (j:=i) (by rw[HNx.out];exact h1) (by rcases HALx.out with h|h|h;exact .inl h;exact .inr (.inr (by omega));exact .inr (.inl (by omega)));obtain⟨x,hx⟩: ∃x,x=xs.getD i 0:=⟨_,rfl⟩;rw[<-hx]at cx;have hxd:=HDx.out.getD (by omega) i;rw[<-hx]at hxd;obtain⟨hx0,hx1⟩:=hxd;have Hx:=κ hx;clear hx;have cy:=HSy.out.spl HZ.out hrow hf (by omega) (j:=i) (by rw[HNy.out];exact h1) (by rcases HALy.out with h|h|h;exact .inl h;exact .inr (.inr (by omega));exact .inr (.inl (by omega)));obtain⟨y,hy⟩: ∃y,y=ys.getD i 0:=⟨_,rfl⟩;rw[<-hy]at cy;have hyd:=HDy.out.getD (by omega) i;rw[<-hy]at hyd;obtain⟨hy0,hy1⟩:=hyd;have Hy:=κ hy;clear hy;clear hold hv hlen hl;have CA:=fun W=>badd_any x y c W hx0 hx1 hy0 hy1 hc0 hc1
   go_wp2_with fail;go_quiet ((go_at_call 74;exact q_left (CA _)));go_wp2_with fail;go_roundg (n-(i+1));case measure=>omega
   case rel=>
    have e:oz+i=oz+pre.length:=by rw[HL.out]
    refine⟨i+1,pre++[(x+y+c)%18446744073709551616],_,by omega,rfl,by go_num,rfl,?_,by repeat (first|exact hf|apply Fr.drewN|apply Fr.set _ (.inl (by simp))),by rw[List.length_append,HL.out];simp,hdg.append (DG.cons (Int.emod_nonneg _ (by omega)) (Int.emod_lt_of_pos _ (by omega)) (DG.nil _)),by omega,by omega,?_⟩
    ·rw[<-spl_set_end (by rw[HL.out];omega),<- e];exact(hrow.drewN _).set _ _
    ·rw[val_snoc,HL.out]
     rw[val_take_succ',val_take_succ',<- Hx.out,<- Hy.out];have h:=HV.out;have e:=Int.emod_add_mul_ediv (x+y+c) 18446744073709551616;rw[Int.pow_succ];grind
  ·obtain rfl:i=n:=by omega
   go_wp2_with fail;go_ret;have hv':=hv;have e1:xs.take i=xs:=List.take_of_length_le (by rw[HNx.out];omega);have e2:ys.take i=ys:=List.take_of_length_le (by rw[HNy.out];omega);rw[e1,e2]at hv';exact⟨pre,c,rfl,hrow,hf,hl,hdg,hc0,hc1,hv'⟩
theorem subVV_any(bz oz cz bx ox cx by_ oy cy n:Nat)(L xs ys:List Int)(w:World)(hz:Row .u64 51 w bz L)(hfit:oz+n<=L.length)(hnx:xs.length=n)(hsx:Src .u64 w bx ox xs)(hdx:DG 18446744073709551616 xs)(halx:NoTouch bz oz bx ox n)
 (hny:ys.length=n)(hsy:Src .u64 w by_ oy ys)(hdy:DG 18446744073709551616 ys)(haly:NoTouch bz oz by_ oy n)(hn9:n<=1000000000):
 Calls Tryz.prog 105 #[.slice (some ⟨bz,oz,none⟩) n cz,.slice (some ⟨bx,ox,none⟩) n cx,.slice (some ⟨by_,oy,none⟩) n cy] w (VecPost 51 w bz oz n L (fun zs c=>0<=c/\c<=1/\val 18446744073709551616 zs+val 18446744073709551616 ys=val 18446744073709551616 xs+18446744073709551616^n*c)):=by
 have HZ:=κ hz;have HNx:=κ hnx;have HSx:=κ hsx;have HDx:=κ hdx;have HALx:=κ halx;clear hz hnx hsx hdx halx;have HNy:=κ hny;have HSy:=κ hsy;have HDy:=κ hdy;have HALy:=κ haly;clear hny hsy hdy haly;go_enter Tryz.func105,Tryz.ntmps105;go_wp2_with fail;go_loopg [6,25] n (VecRel 51 w bz oz n L (fun i pre c=>0<=c/\c<=1/\val 18446744073709551616 pre+val 18446744073709551616 (ys.take i)=val 18446744073709551616 (xs.take i)+18446744073709551616^i*c));case atStart=>exact⟨0,[],0,by omega,rfl,rfl,rfl,by rw[spl_nil];exact HZ.out,Fr.refl _ _,rfl,DG.nil _,by omega,by omega,by simp[val_nil]⟩
 case round=>
  obtain⟨i,pre,c,hi,rfl,rfl,rfl,hrow,hf,hl,hdg,hc0,hc1,hv⟩:=hrel;by_cases h1:i<n
  ·have hlen:(spl L oz pre).length=L.length:=spl_len (by omega)
   have hfz:=hrow.frozen (oz+i);have cz:=hrow.cell (i:=oz+i) (by omega);obtain⟨old,hold⟩: ∃old,old=(spl L oz pre).getD (oz+i) 0:=⟨_,rfl⟩;rw[<-hold]at cz;have HV:=κ hv;have HL:=κ hl;have HLEN:=κ hlen;have key:True:=trivial;have cx:=HSx.out.spl HZ.out hrow hf (by omega) (j:=i) (by rw[HNx.out];exact h1) (by rcases HALx.out with h|h|h;exact .inl h;exact .inr (.inr (by omega));exact .inr (.inl (by omega)));obtain⟨x,hx⟩: ∃x,x=xs.getD i 0:=⟨_,rfl⟩;rw[<-hx]at cx;have hxd:=HDx.out.getD (by omega) i;rw[<-hx]at hxd;obtain⟨hx0,hx1⟩:=hxd;have Hx:=κ hx;clear hx;have cy:=HSy.out.spl HZ.out hrow hf (by omega) (j:=i) (by rw[HNy.out];exact h1) (by rcases HALy.out with h|h|h;exact .inl h;exact .inr (.inr (by omega));exact .inr (.inl (by omega)));obtain⟨y,hy⟩: ∃y,y=ys.getD i 0:=⟨_,rfl⟩;rw[<-hy]at cy;have hyd:=HDy.out.getD (by omega) i;rw[<-hy]at hyd;obtain⟨hy0,hy1⟩:=hyd;have Hy:=κ hy;clear hy;clear hold hv hlen hl;have CA:=fun W=>bsub_any x y c W hx0 hx1 hy0 hy1 hc0 hc1
   go_wp2_with fail;go_quiet ((go_at_call 106;exact q_left (CA _)));go_wp2_with fail;go_roundg (n-(i+1));case measure=>omega
   case rel=>
    have e:oz+i=oz+pre.length:=by rw[HL.out]
    refine⟨i+1,pre++[(x-y-c)%18446744073709551616],_,by omega,rfl,by go_num,rfl,?_,by repeat (first|exact hf|apply Fr.drewN|apply Fr.set _ (.inl (by simp))),by rw[List.length_append,HL.out];simp,hdg.append (DG.cons (Int.emod_nonneg _ (by omega)) (Int.emod_lt_of_pos _ (by omega)) (DG.nil _)),by unfold borrow;split<;>omega,by unfold borrow;split<;>omega,?_⟩
    ·rw[<-spl_set_end (by rw[HL.out];omega),<- e];exact(hrow.drewN _).set _ _
    ·rw[val_snoc,HL.out]
     rw[val_take_succ',val_take_succ',<- Hx.out,<- Hy.out];have h:=HV.out;have e:=borrow_eq hx0 hx1 hy0 hy1 hc0 hc1;rw[Int.pow_succ];grind
  ·obtain rfl:i=n:=by omega
   go_wp2_with fail;go_ret;have hv':=hv;have e1:xs.take i=xs:=List.take_of_length_le (by rw[HNx.out];omega);have e2:ys.take i=ys:=List.take_of_length_le (by rw[HNy.out];omega);rw[e1,e2]at hv';exact⟨pre,c,rfl,hrow,hf,hl,hdg,hc0,hc1,hv'⟩
theorem mulAddVWW_any(bz oz cz bx ox cx n:Nat)(L xs:List Int)(y r:Int)(w:World)(hz:Row .u64 51 w bz L)(hfit:oz+n<=L.length)(hnx:xs.length=n)(hsx:Src .u64 w bx ox xs)(hdx:DG 18446744073709551616 xs)(halx:NoTouch bz oz bx ox n)(hn9:n<=1000000000)(hy0:0<=y)(hy1:y<18446744073709551616)(hr0:0<=r)(hr1:r<18446744073709551616):
 Calls Tryz.prog 116 #[.slice (some ⟨bz,oz,none⟩) n cz,.slice (some ⟨bx,ox,none⟩) n cx,.int .u64 y,.int .u64 r] w (VecPost 51 w bz oz n L (fun zs c=>0<=c/\c<18446744073709551616/\val 18446744073709551616 zs+18446744073709551616^n*c=val 18446744073709551616 xs*y+r)):=by
 have HZ:=κ hz;have HNx:=κ hnx;have HSx:=κ hsx;have HDx:=κ hdx;have HALx:=κ halx;clear hz hnx hsx hdx halx;go_enter Tryz.func116,Tryz.ntmps116;go_wp2_with fail;go_loopg [8,19] n (VecRel 51 w bz oz n L (fun i pre c=>0<=c/\c<18446744073709551616/\val 18446744073709551616 pre+18446744073709551616^i*c=val 18446744073709551616 (xs.take i)*y+r));case atStart=>exact⟨0,[],r,by omega,rfl,rfl,rfl,by rw[spl_nil];exact HZ.out,Fr.refl _ _,rfl,DG.nil _,hr0,hr1,by simp[val_nil]⟩
 case round=>
  obtain⟨i,pre,c,hi,rfl,rfl,rfl,hrow,hf,hl,hdg,hc0,hc1,hv⟩:=hrel;by_cases h1:i<n
  ·have hlen:(spl L oz pre).length=L.length:=spl_len (by omega)
   have hfz:=hrow.frozen (oz+i);have cz:=hrow.cell (i:=oz+i) (by omega);obtain⟨old,hold⟩: ∃old,old=(spl L oz pre).getD (oz+i) 0:=⟨_,rfl⟩;rw[<-hold]at cz;have HV:=κ hv;have HL:=κ hl;have HLEN:=κ hlen;have key:True:=trivial;have cx:=HSx.out.spl HZ.out hrow hf (by omega) (j:=i) (by rw[HNx.out];exact h1) (by rcases HALx.out with h|h|h;exact .inl h;exact .inr (.inr (by omega));exact .inr (.inl (by omega)));obtain⟨x,hx⟩: ∃x,x=xs.getD i 0:=⟨_,rfl⟩;rw[<-hx]at cx;have hxd:=HDx.out.getD (by omega) i;rw[<-hx]at hxd;obtain⟨hx0,hx1⟩:=hxd;have Hx:=κ hx;clear hx;clear hold hv hlen hl;have CA:=fun W=>mulAdd_any x y c W hx0 hx1 hy0 hy1 hc0 hc1
   have hb:=mulc_bound hx0 hx1 hy0 hy1 hc0 hc1;obtain⟨p,hp⟩: ∃p,p=x*y+c:=⟨_,rfl⟩;rw[<-hp]at hb;simp only[<-hp]at CA;have HP:=κ hp;have HB:=κ hb;have HCA:=κ CA;clear hp hb CA;go_wp2_with (go_at_call 135;refine(HCA.out _).mono ?_;rintro e w1 ⟨rfl,rfl⟩);go_roundg (n-(i+1));case measure=>omega
   case rel=>
    have e:oz+i=oz+pre.length:=by rw[HL.out]
    refine⟨i+1,pre++[p%18446744073709551616],_,by omega,rfl,by go_num,rfl,?_,by repeat (first|exact hf|apply Fr.drewN|apply Fr.set _ (.inl (by simp))),by rw[List.length_append,HL.out];simp,hdg.append (DG.cons (Int.emod_nonneg _ (by omega)) (Int.emod_lt_of_pos _ (by omega)) (DG.nil _)),by have:=HB.out;omega,by have:=HB.out;omega,?_⟩
    ·rw[<-spl_set_end (by rw[HL.out];omega),<- e];exact hrow.set _ _
    ·rw[val_snoc,HL.out]
     rw[val_take_succ',<- Hx.out];have h:=HV.out;have e:=Int.emod_add_mul_ediv p 18446744073709551616;have hp:=HP.out;rw[Int.pow_succ];grind
  ·obtain rfl:i=n:=by omega
   go_wp2_with fail;go_ret;have hv':=hv;rw[List.take_of_length_le (by rw[HNx.out];omega)]at hv';exact⟨pre,c,rfl,hrow,hf,hl,hdg,hc0,hc1,hv'⟩
theorem addMulVVWW_any(bz oz cz bx ox cx by_ oy cy n:Nat)(L xs ys:List Int)(m a:Int)(w:World)(hz:Row .u64 51 w bz L)(hfit:oz+n<=L.length)(hnx:xs.length=n)(hsx:Src .u64 w bx ox xs)(hdx:DG 18446744073709551616 xs)(halx:NoTouch bz oz bx ox n)
 (hny:ys.length=n)(hsy:Src .u64 w by_ oy ys)(hdy:DG 18446744073709551616 ys)(haly:NoTouch bz oz by_ oy n)(hn9:n<=1000000000)(hm0:0<=m)(hm1:m<18446744073709551616)(ha0:0<=a)(ha1:a<18446744073709551616):
 Calls Tryz.prog 117 #[.slice (some ⟨bz,oz,none⟩) n cz,.slice (some ⟨bx,ox,none⟩) n cx,.slice (some ⟨by_,oy,none⟩) n cy,.int .u64 m,.int .u64 a] w (VecPost 51 w bz oz n L (fun zs c=>0<=c/\c<18446744073709551616/\val 18446744073709551616 zs+18446744073709551616^n*c=val 18446744073709551616 xs+val 18446744073709551616 ys*m+a)):=by
 have HZ:=κ hz;have HNx:=κ hnx;have HSx:=κ hsx;have HDx:=κ hdx;have HALx:=κ halx;clear hz hnx hsx hdx halx;have HNy:=κ hny;have HSy:=κ hsy;have HDy:=κ hdy;have HALy:=κ haly;clear hny hsy hdy haly;go_enter Tryz.func117,Tryz.ntmps117;go_wp2_with fail;go_loopg [10,32] n (VecRel 51 w bz oz n L (fun i pre c=>0<=c/\c<18446744073709551616/\val 18446744073709551616 pre+18446744073709551616^i*c=val 18446744073709551616 (xs.take i)+val 18446744073709551616 (ys.take i)*m+a));case atStart=>exact⟨0,[],a,by omega,rfl,rfl,rfl,by rw[spl_nil];exact HZ.out,Fr.refl _ _,rfl,DG.nil _,ha0,ha1,by simp[val_nil]⟩
 case round=>
  obtain⟨i,pre,c,hi,rfl,rfl,rfl,hrow,hf,hl,hdg,hc0,hc1,hv⟩:=hrel;by_cases h1:i<n
  ·have hlen:(spl L oz pre).length=L.length:=spl_len (by omega)
   have hfz:=hrow.frozen (oz+i);have cz:=hrow.cell (i:=oz+i) (by omega);obtain⟨old,hold⟩: ∃old,old=(spl L oz pre).getD (oz+i) 0:=⟨_,rfl⟩;rw[<-hold]at cz;have HV:=κ hv;have HL:=κ hl;have HLEN:=κ hlen;have key:True:=trivial;have cx:=HSx.out.spl HZ.out hrow hf (by omega) (j:=i) (by rw[HNx.out];exact h1) (by rcases HALx.out with h|h|h;exact .inl h;exact .inr (.inr (by omega));exact .inr (.inl (by omega)));obtain⟨x,hx⟩: ∃x,x=xs.getD i 0:=⟨_,rfl⟩;rw[<-hx]at cx;have hxd:=HDx.out.getD (by omega) i;rw[<-hx]at hxd;obtain⟨hx0,hx1⟩:=hxd;have Hx:=κ hx;clear hx;have cy:=HSy.out.spl HZ.out hrow hf (by omega) (j:=i) (by rw[HNy.out];exact h1) (by rcases HALy.out with h|h|h;exact .inl h;exact .inr (.inr (by omega));exact .inr (.inl (by omega)));obtain⟨y,hy⟩: ∃y,y=ys.getD i 0:=⟨_,rfl⟩;rw[<-hy]at cy;have hyd:=HDy.out.getD (by omega) i;rw[<-hy]at hyd;obtain⟨hy0,hy1⟩:=hyd;have Hy:=κ hy;clear hy;clear hold hv hlen hl;have CA:=fun W=>mulAdd_any y m x W hy0 hy1 hm0 hm1 hx0 hx1
   have hb:=mulc_bound hy0 hy1 hm0 hm1 hx0 hx1;obtain⟨p,hp⟩: ∃p,p=y*m+x:=⟨_,rfl⟩;rw[<-hp]at hb;simp only[<-hp]at CA;obtain⟨ph,hph⟩: ∃ph,ph=p/18446744073709551616:=⟨_,rfl⟩;obtain⟨pl,hpl⟩: ∃pl,pl=p%18446744073709551616:=⟨_,rfl⟩;simp only[<-hph,<- hpl]at CA;have hpb:0<=pl/\pl<18446744073709551616/\0<=ph/\ph<=18446744073709551615/\p=pl+18446744073709551616*ph:=by omega
   obtain⟨hpl0,hpl1,hph0,hph1,hpe⟩:=hpb;have CB:=fun W=>badd_any pl c 0 W hpl0 hpl1 hc0 hc1 (by omega) (by omega)
   have hs:IntKind.u64.wrap ((pl+c+0)/18446744073709551616+ph)=(pl+c+0)/18446744073709551616+ph:=IntWalk.u64_in _ (by omega);obtain⟨sh,hsh⟩: ∃sh,sh=(pl+c+0)/18446744073709551616:=⟨_,rfl⟩;obtain⟨sl,hsl⟩: ∃sl,sl=(pl+c+0)%18446744073709551616:=⟨_,rfl⟩;simp only[<-hsh,<- hsl]at CB;rw[<-hsh]at hs;have hsb:0<=sl/\sl<18446744073709551616/\0<=sh/\sh+ph<18446744073709551616/\pl+c=sl+18446744073709551616*sh:=by omega
   obtain⟨hsl0,hsl1,hsh0,hsh1,hse⟩:=hsb;have HPE:=κ hpe;have HSE:=κ hse;have HP:=κ hp;have HCB:=κ CB;clear hp hb hph hpl hpe hsh hsl hse CB;go_wp2_with fail;go_quiet ((go_at_call 135;exact q_left (CA _)));clear CA;go_wp2_with (go_at_call 74;refine(HCB.out _).mono ?_;rintro e w1 ⟨rfl,rfl⟩);go_roundg (n-(i+1));case measure=>omega
   case rel=>
    have e:oz+i=oz+pre.length:=by rw[HL.out]
    refine⟨i+1,pre++[sl],_,by omega,rfl,by go_num,rfl,?_,by repeat (first|exact hf|apply Fr.drewN|apply Fr.set _ (.inl (by simp))),by rw[List.length_append,HL.out];simp,hdg.append (DG.cons hsl0 hsl1 (DG.nil _)),by omega,by omega,?_⟩
    ·rw[<-spl_set_end (by rw[HL.out];omega),<- e];exact(hrow.drewN _).set _ _
    ·rw[val_snoc,HL.out]
     rw[val_take_succ',val_take_succ',<- Hx.out,<- Hy.out];have h:=HV.out;have e1:=HPE.out;have e2:=HSE.out;have hp:=HP.out;rw[Int.pow_succ];grind
  ·obtain rfl:i=n:=by omega
   go_wp2_with fail;go_ret;have hv':=hv;have e1:xs.take i=xs:=List.take_of_length_le (by rw[HNx.out];omega);have e2:ys.take i=ys:=List.take_of_length_le (by rw[HNy.out];omega);rw[e1,e2]at hv';exact⟨pre,c,rfl,hrow,hf,hl,hdg,hc0,hc1,hv'⟩
end Go.Proofs.YthecibbmbnpegaaGreatDoor
end
section
namespace Go.Big
open Go.RowKit
theorem step_copy{P:Program}{ops:Array Oper}{o:Oper}{a:Act}{w:World}{K:Act->World->Prop}{Q:Exit->Act->World->Prop}{E:Prop}(hgd:o.guard=none)(d s:Operand)(dT sT:TypeId)
 (ho:o.op= .call {callee:= .builtin .copy,args:= #[d,s],argTypes:= #[dT,sT]})(k:IntKind)(T:TypeId)(hu:P.underlying dT=some (.slice T))(hsz:(P.info? T).map (·.size)=some 1)
 (dp sp:Option Addr)(dLen dCap sCap:Nat)(hd:a.eval d= .slice dp dLen dCap)(xs:List Int)(hs:a.eval s= .slice sp dLen sCap)(hn:xs.length=dLen)(bx ox:Nat)(hsl:Src k w bx ox xs)(g off:Nat)(L:List Int)(hrow:Row k T w g L)
 (hdp:0<dLen->dp=some ⟨g,off,none⟩/\sp=some ⟨bx,ox,none⟩)(hfit:off+dLen<=L.length)
 (h: ∀w',Row k T w' g (spl L off xs)->Fr [g] w w'->K (a.put o.dst (goInt dLen)) w'):
 if Region.wanted o (yielded ops a.tmps)=true then Oper.wp P o a w K Q else E:=by
 have hw:Region.wanted o (yielded ops a.tmps)=true:=by simp[Region.wanted,hgd]
 rw[if_pos hw];by_cases h0:dLen=0
 ·have hrun:=run_copy_none (P:=P) w dT sT o.type T dp sp dLen dCap dLen sCap hu hsz (by simp[h0])
  unfold Oper.wp;simp[execOp,ho,resolve,invoke,builtin,hd,hs,hrun,Result.andThen];have e:=h w (by rw[List.eq_nil_of_length_eq_zero (hn.trans h0),spl_nil];exact hrow) (Fr.refl _ _);rw[h0]at e;exact e
 ·obtain⟨rfl,rfl⟩:=hdp (by omega)
  have hrun:=run_copy_row (P:=P) w dT sT o.type T g off dLen dCap ⟨bx,ox,none⟩ dLen sCap _ T (xs.map (Value.int k)) hu hsz hrow (by simp[hn]) (by
   intro j v hj;rw[List.getElem?_map]at hj
   have hlt:j<xs.length:=by
    rcases Nat.lt_or_ge j xs.length with hl|hl
    ·exact hl
    ·rw[List.getElem?_eq_none hl]at hj;cases hj
   have hc:=hsl j hlt;rw[List.getElem?_eq_getElem hlt]at hj;simp only[Option.map_some,Option.some.injEq]at hj;subst hj;rw[getD_in hlt]at hc;rw[<-hc];unfold Addr.add;split
   ·rename_i hj0;subst hj0;rfl
   ·rfl) (by rw[List.length_map,hn];simpa using hfit) (ints_oneCell k _);unfold Oper.wp;simp[execOp,ho,resolve,invoke,builtin,hd,hs,hrun,Result.andThen];rw[hn];refine h _ ?_ ?_
  ·unfold Row spl
   rw[setRow_heap w g _ _ T _ hrow];simp[List.map_take,List.map_drop,hn]
  ·refine⟨rfl,rfl,rfl,by simp[World.setRow],fun b hb hn=>setRow_other w g b _ (by simpa using hn)⟩
end Go.Big
namespace Go.Proofs.YthecibbmbnpegaaGreatDoor
open Go.Big Go.RowKit
theorem spl_app{L:List Int}{o:Nat}{cs ds:List Int}(h:o+cs.length<=L.length):spl (spl L o cs) (o+cs.length) ds=spl L o (cs++ds):=by
 have ht:(L.take o).length=o:=by rw[List.length_take];omega
 unfold spl;rw[List.take_append,List.drop_append];simp only[List.length_append,List.length_take,List.take_append,List.drop_append,List.take_take,List.drop_drop];rw[Nat.min_eq_left (show o<=L.length by omega)];simp only[List.append_assoc];congr 1
 ·rw[Nat.min_eq_right (by omega)]
 ·rw[show o+cs.length-o=cs.length by omega,List.take_length]
  congr 1;rw[show cs.length-cs.length=0 by omega];simp only[List.take_zero,List.nil_append];rw[List.drop_eq_nil_of_le (show(L.take o).length<=o+cs.length+ds.length by omega),List.drop_eq_nil_of_le (show cs.length<=o+cs.length+ds.length-o by omega)];simp only[List.nil_append];congr 2;omega
theorem size_wordV:(Tryz.prog.info? 51).map (·.size)=some 1:=by kernel_rfl
theorem neq_ptr{bz oz bx ox:Nat}{L X:List Int}{T T':TypeId}(w:World)(hne:bx≠bz)(hz:Row .u64 T w bz L)(hx:Row .u64 T' w bx X):
 (binOp .neq 90 (.pointer (some ⟨bz,oz,none⟩)) (.pointer (some ⟨bx,ox,none⟩))).run Tryz.prog w= .ok (.bool true) w:=by
 obtain⟨j,hj,hjs⟩: ∃j,Tryz.prog.info? 51=some j/\j.size=1:=by
  have h:=size_wordV;cases e:Tryz.prog.info? 51 with
  |none=>rw[e]at h;cases h
  |some j=>rw[e]at h;exact⟨j,rfl,by simpa using h⟩
 have h: ∀d:Nat,(Op.equalIn (d+1) 90 (.pointer (some ⟨bz,oz,none⟩)) (.pointer (some ⟨bx,ox,none⟩))).run Tryz.prog w= .ok false w:=fun d=>by
  simp[Op.equalIn,run_underlying Tryz.underlying90,sizeOf,typeInfo,hj,hjs,run_sameAddr_other w (a:=⟨bz,oz,none⟩) (b:=⟨bx,ox,none⟩) (fun e=>hne (by injection e with e;exact e.symm)) hz hx]
 simp only[binOp];simp[Op.equal,Op.maxDepth,h 9999]
theorem fr_same{w w1 w2:World}{b:Nat}(h:Fr [b] w w1)(h':Fr [b] w1 w2):Fr [b] w w2:=h.trans h' (fun _ hx _=>hx)
theorem addVW_any(bz oz kz bx ox kx n:Nat)(L xs:List Int)(y:Int)(w:World)(hz:Row .u64 51 w bz L)(hfit:oz+n<=L.length)(hnx:xs.length=n)(hsx:Src .u64 w bx ox xs)(hdx:DG 18446744073709551616 xs)(X:List Int)(hX:Row .u64 51 w bx X)(hne:bx≠bz)(hn0:0<n)(hn9:n<=1000000000)(hkz:n<=kz)(hkx:n<=kx)(hkz9:kz<=maxLen)(hkx9:kx<=maxLen)(hy0:0<=y)(hy1:y<18446744073709551616):
 Calls Tryz.prog 44 #[.slice (some ⟨bz,oz,none⟩) n kz,.slice (some ⟨bx,ox,none⟩) n kx,.int .u64 y] w (VecPost 51 w bz oz n L (fun zs c=>0<=c/\c<=1/\val 18446744073709551616 zs+18446744073709551616^n*c=val 18446744073709551616 xs+y)):=by
 unfold maxLen at hkz9 hkx9;have HZ:=κ hz;have HNx:=κ hnx;have HSx:=κ hsx;have HDx:=κ hdx;have HX:=κ hX;have hn0':(n:Int)≠0:=by omega
 have hn1':(1:Int)<=(n:Int):=by omega
 have cx0:=hsx 0 (by omega);obtain⟨x,hx⟩: ∃x,x=xs.getD 0 0:=⟨_,rfl⟩;rw[<-hx]at cx0;have hxd:=hdx.getD (by omega) 0;rw[<-hx]at hxd;obtain⟨hx0,hx1⟩:=hxd
 have ht1:val 18446744073709551616 (xs.take 1)=x:=by
  have e:=val_take_succ' 18446744073709551616 xs 0;rw[<-hx]at e;simpa[val_nil]using e
 have HT1:=κ ht1;have hfz:=hz.frozen (oz+0);have cz:=hz.cell (i:=oz+0) (by omega);obtain⟨old,hold⟩: ∃old,old=L.getD (oz+0) 0:=⟨_,rfl⟩;rw[<-hold]at cz;simp only[Nat.add_zero]at cz cx0 hfz;obtain⟨s,hs⟩: ∃s,s=(x+y+0)%18446744073709551616:=⟨_,rfl⟩;obtain⟨c,hc⟩: ∃c,c=(x+y+0)/18446744073709551616:=⟨_,rfl⟩;have CA:=badd_any x y 0 w hx0 hx1 hy0 hy1 (by omega) (by omega);rw[<-hs,<- hc]at CA;have HCA:=κ CA;have hs0:0<=s/\s<18446744073709551616:=by omega
 have hc0:c=0\/c=1:=by omega
 have hsc:s+18446744073709551616*c=x+y:=by omega
 have HSC:=κ hsc;have HS0:=κ hs0
 have hrow1:Row .u64 51 (w.setCell ⟨bz,oz,none⟩ (.int .u64 s)) bz (spl L oz [s]):=by
  have h:=HZ.out.set oz s;have e:=spl_set_end (L:=L) (o:=oz) (cs:=[]) (by simp;omega) s;rw[spl_nil]at e;rw[show L.set oz s=spl L oz [s]from e]at h;exact h
 have hf1:Fr [bz] w (w.setCell ⟨bz,oz,none⟩ (.int .u64 s)):=by apply Fr.set _ (.inl (by simp));exact Fr.refl _ _
 have HROW1:=κ hrow1;have HF1:=κ hf1;clear hz hnx hsx hdx hx hold hs hc CA hs0 hsc hX ht1 hrow1 hf1;rcases hc0 with rfl|rfl
 ·go_enter Tryz.func44,Tryz.ntmps44
  go_wp2_with (go_at_call 74;refine(HCA.out).mono ?_;rintro e w1 ⟨rfl,rfl⟩);have hrow1:=HROW1.out;have hf1:=HF1.out;have hX1:=HX.out.fr hf1 (by simpa using hne);have hs1:=HSx.out.fr hf1 (by simpa using hne);obtain⟨w1,hw1⟩: ∃w1,w1=w.setCell ⟨bz,oz,none⟩ (.int .u64 s):=⟨_,rfl⟩;clear HROW1 HF1;rw[<-hw1]at hrow1 hf1 hX1 hs1 ⊢
  clear hw1;have hq:=neq_ptr (oz:=oz) (ox:=ox) w1.drew hne hrow1.drew hX1.drew;have HROW:=κ hrow1;have HF:=κ hf1;have HS1:=κ hs1;clear hrow1 hf1 hX1 hs1;go_region;go_wp2_with fail;go_region_law (refine step_copy rfl (.tmp 40) (.tmp 42) _ _ rfl .u64 51 Tryz.underlying42 size_wordV _ _ (n-1) (kz-1) (kx-1) rfl (xs.drop 1) rfl (by rw[List.length_drop,HNx.out]) bx (ox+1) (HS1.out.drop 1) bz (oz+1) (spl L oz [s]) HROW.out.drew.drew (fun hp=>⟨by rw[if_neg (by omega)],by rw[if_neg (by omega)]⟩) (by rw[spl_len (by simp;omega)];omega) ?_;intro w2 row2 f2);all_goals (go_wp2_with fail)
  all_goals go_ret
  all_goals (
   have row3:=row2;rw[show oz+1=oz+[s].length from rfl,spl_app (by simp;omega)]at row3;refine⟨[s]++xs.drop 1,0,rfl,row3,fr_same HF.out.drew.drew f2,?_,DG.append (DG.cons HS0.out.1 HS0.out.2 (DG.nil _)) (HDx.out.drop 1),by omega,by omega,?_⟩
   ·rw[List.length_append,List.length_drop,HNx.out];simp;omega
   ·have e:=val_split 18446744073709551616 xs 1 (by rw[HNx.out];omega)
    have h:=HSC.out;rw[HT1.out]at e;rw[e];simp[val_cons,val_nil];omega)
 ·have hh:val 18446744073709551616 [s]=s:=by simp[val_cons,val_nil]
  have HH:=κ hh;clear hh;go_enter Tryz.func44,Tryz.ntmps44;go_wp2_with (go_at_call 74;refine(HCA.out).mono ?_;rintro e w1 ⟨rfl,rfl⟩);go_loopg [9] (n-1) (fun g iv wr=> ∃(i:Nat) (pre:List Int),1<=i/\i<=n/\g=n-i/\iv= .int .i64 i/\Row .u64 51 wr bz (spl L oz pre)/\Fr [bz] w wr/\pre.length=i/\DG 18446744073709551616 pre/\val 18446744073709551616 pre+18446744073709551616^i*1=val 18446744073709551616 (xs.take i)+y)
  case atStart=>
   refine⟨1,[s],by omega,by omega,rfl,rfl,HROW1.out,HF1.out,rfl,DG.cons HS0.out.1 HS0.out.2 (DG.nil _),?_⟩;have h:=HSC.out;rw[HH.out,HT1.out];omega
  case round=>
   obtain⟨i,pre,hi1,hi,rfl,rfl,hrow,hf,hl,hdg,hv⟩:=hrel;have HL:=κ hl;have HV:=κ hv;have HROW:=κ hrow;have HF:=κ hf;clear HROW1 HF1 HSC HS0 HH HT1 HCA cx0 cz hfz;by_cases h1:i<n
   ·have hlen:(spl L oz pre).length=L.length:=spl_len (by omega)
    have HLEN:=κ hlen;have hfz:=hrow.frozen (oz+i);have cz:=hrow.cell (i:=oz+i) (by omega);obtain⟨old,hold⟩: ∃old,old=(spl L oz pre).getD (oz+i) 0:=⟨_,rfl⟩;rw[<-hold]at cz;have cx:=(HSx.out.fr hf (by simpa using hne)) i (by rw[HNx.out];exact h1);obtain⟨q,hq⟩: ∃q,q=xs.getD i 0:=⟨_,rfl⟩;rw[<-hq]at cx;have hqd:=HDx.out.getD (by omega) i;rw[<-hq]at hqd;obtain⟨hq0,hq1⟩:=hqd;have Hq:=κ hq;have ein:((i:Int)+1).toNat=i+1:=by omega
    have hwi:IntKind.i64.wrap ((i:Int)+1)=(i:Int)+1:=by rw[IntKind.wrap_i64];omega
    have hi1':(i:Int)+1<=(n:Int):=by omega
    have hi0':(0:Int)<=(i:Int)+1:=by omega
    clear hq hold hlen hl hv hrow hf;by_cases h2:q=18446744073709551615
    ·subst h2
     go_wp2_with fail;go_roundg (n-(i+1));case measure=>omega
     case rel=>
      have e:oz+i=oz+pre.length:=by rw[HL.out]
      refine⟨i+1,pre++[0],by omega,by omega,rfl,by go_num,?_,by repeat (first|exact HF.out|apply Fr.drewN|apply Fr.set _ (.inl (by simp))),by rw[List.length_append,HL.out];simp,hdg.append (DG.cons (by omega) (by omega) (DG.nil _)),?_⟩
      ·rw[<-spl_set_end (by rw[HL.out];omega),<- e];exact HROW.out.set _ _
      ·rw[val_snoc,HL.out,val_take_succ',<- Hq.out,Int.pow_succ]
       have h:=HV.out;grind
    ·have hw:IntKind.u64.wrap (q+1)=q+1:=IntWalk.u64_in _ (by omega)
     have hrow1:Row .u64 51 ((wr).setCell ⟨bz,oz+i,none⟩ (.int .u64 (q+1))) bz (spl L oz (pre++[q+1])):=by
      have h:=HROW.out.set (oz+i) (q+1);have e:oz+i=oz+pre.length:=by rw[HL.out]
      rw[<-spl_set_end (by rw[HL.out];omega),<- e];exact h
     have hf1:Fr [bz] w ((wr).setCell ⟨bz,oz+i,none⟩ (.int .u64 (q+1))):=by apply Fr.set _ (.inl (by simp));exact HF.out
     have HROW1:=κ hrow1;have HF1:=κ hf1;clear hrow1 hf1;go_wp2_with fail;have hrow1:=HROW1.out;have hf1:=HF1.out;have hX1:=HX.out.fr hf1 (by simpa using hne);have hs1:=HSx.out.fr hf1 (by simpa using hne);obtain⟨w1,hw1⟩: ∃w1,w1=wr.setCell ⟨bz,oz+i,none⟩ (.int .u64 (q+1)):=⟨_,rfl⟩;clear HROW1 HF1;rw[<-hw1]at hrow1 hf1 hX1 hs1 ⊢
     clear hw1;have hq:=neq_ptr (oz:=oz) (ox:=ox) w1.drew hne hrow1.drew hX1.drew;have HROW1:=κ hrow1;have HF1:=κ hf1;have HS1:=κ hs1;clear hrow1 hf1 hX1 hs1 cx cz hfz HROW HF
     have FIN: ∀w2,Row .u64 51 w2 bz (spl (spl L oz (pre++[q+1])) (oz+(i+1)) (xs.drop (i+1)))->Fr [bz] w1.drew.drew w2->VecPost 51 w bz oz n L (fun zs c=>0<=c/\c<=1/\val 18446744073709551616 zs+18446744073709551616^n*c=val 18446744073709551616 xs+y) (.returned (.int .u64 0)) w2:=by
      intro w2 row2 f2;have hlp:(pre++[q+1]).length=i+1:=by simp[HL.out]
      rw[<-hlp,spl_app (by rw[hlp];omega),hlp]at row2;refine⟨(pre++[q+1])++xs.drop (i+1),0,rfl,row2,fr_same HF1.out.drew.drew f2,?_,DG.append (DG.append hdg (DG.cons (by omega) (by omega) (DG.nil _))) (HDx.out.drop (i+1)),by omega,by omega,?_⟩
      ·rw[List.length_append,List.length_drop,HNx.out,hlp];omega
      ·have e:=val_split 18446744073709551616 xs (i+1) (by rw[HNx.out];omega)
       have h:=HV.out;rw[val_take_succ',<- Hq.out]at e;rw[e,val_append,val_snoc,HL.out,hlp,Int.mul_zero,Int.add_zero,Int.mul_add,Int.mul_one];rw[Int.mul_one]at h;omega
     have HFIN:=κ FIN;have HLP:spl L oz (pre++[q+1])=spl L oz (pre++[q+1])/\(spl L oz (pre++[q+1])).length=L.length:=⟨rfl,spl_len (by simp[HL.out];omega)⟩;have HLX:=κ (show oz+(i+1)+(n-(i+1))<=(spl L oz (pre++[q+1])).length by rw[HLP.2];omega);have HLD:=κ (show(xs.drop (i+1)).length=n-(i+1)by rw[List.length_drop,HNx.out]);obtain⟨LL,hLL⟩: ∃LL,LL=spl L oz (pre++[q+1]):=⟨_,rfl⟩;rw[<-hLL]at HFIN HLX HROW1;clear FIN HLP hLL hw;go_region;go_wp2_with fail;clear hq;have HDP:=κ (show 0<n-(i+1)->(if kz=i+1 then some (⟨bz,oz,none⟩:Addr)else some ⟨bz,oz+(i+1),none⟩)=some ⟨bz,oz+(i+1),none⟩/\(if kx=i+1 then some (⟨bx,ox,none⟩:Addr)else some ⟨bx,ox+(i+1),none⟩)=some ⟨bx,ox+(i+1),none⟩from fun hp=>⟨by rw[if_neg (by omega)],by rw[if_neg (by omega)]⟩);have HSD:=κ (show Src .u64 w1.drew.drew bx (ox+(i+1)) (xs.drop (i+1))from HS1.out.drop (i+1));have HRD:=κ (show Row .u64 51 w1.drew.drew bz LL from HROW1.out.drew.drew);go_region_law (refine step_copy rfl (.tmp 69) (.tmp 73) _ _ rfl .u64 51 Tryz.underlying42 size_wordV (if kz=i+1 then some ⟨bz,oz,none⟩else some ⟨bz,oz+(i+1),none⟩) (if kx=i+1 then some ⟨bx,ox,none⟩else some ⟨bx,ox+(i+1),none⟩) (n-(i+1)) (kz-(i+1)) (kx-(i+1)) (by simp[Act.eval,Act.put]) (xs.drop (i+1)) (by simp[Act.eval,Act.put]) HLD.out bx (ox+(i+1)) HSD.out bz (oz+(i+1)) LL HRD.out HDP.out HLX.out ?_;intro w2 row2 f2;have G2:=κ (HFIN.out w2 row2 f2);clear HFIN row2 f2);all_goals (go_wp2_with fail)
     all_goals go_ret
     all_goals exact G2.out
   ·obtain rfl:i=n:=by omega
    clear hrow hf hl hv;go_wp2_with fail;go_ret;have hv':=HV.out;rw[show xs.take i=xs from List.take_of_length_le (by rw[HNx.out];omega)]at hv';exact⟨pre,1,rfl,HROW.out,HF.out,HL.out,hdg,by omega,by omega,hv'⟩
end Go.Proofs.YthecibbmbnpegaaGreatDoor
end
namespace Go.Proofs.YthecibbmbnpegaaGreatDoor
open Go.Big Go.RowKit
def RetN(xs:List Int)(w:World)(e:Ending)(w':World):Prop:=
 ∃v ys,e= .returned v/\Sl .u64 w' v ys/\DG 18446744073709551616 ys/\NZ ys/\val 18446744073709551616 ys=val 18446744073709551616 xs/\ys.length<=xs.length/\Fr [] w w'
theorem normed_any(v:Value)(xs:List Int)(w:World)(hx:Sl .u64 w v xs)(hd:DG 18446744073709551616 xs)(hl:xs.length<=1000000):
 Calls Tryz.prog 19 #[v] w (RetN xs w):=by
 refine(implnorm_any v xs w hx hd hl).mono ?_;rintro e w' ⟨v',rfl,⟨ys,h1,h2,h3,h4⟩,f⟩;exact⟨v',ys,rfl,h1,h2,h3,h4,len_le (by omega) h2 h3 (by rw[h4];exact val_lt (by omega) hd),f⟩
theorem few_lit(m:Nat)(vs:List (Option Addr×Nat×Nat))(w:World)(T:TypeId)(hm:m<=1000000)(hl:vs.length<=1000)(hmax: ∀v∈vs,v.2.1<=9223372036854775807)(r:Bool)
 (hr:r=vs.all (fun v=>decide (v.2.1<=m))):
 Calls Tryz.prog 4 #[.int .i64 (m:Int),.slice (some ⟨w.heap.size,0,none⟩) vs.length vs.length] (w.alloc (.cells (vs.map (fun v=>Value.slice v.1 v.2.1 v.2.2)).toArray T))
  fun e w'=>e= .returned (.bool r)/\(w.alloc (.cells (vs.map (fun v=>Value.slice v.1 v.2.1 v.2.2)).toArray T))=w':=by
 have h:=few_any m w.heap.size (vs.map (·.2.1)) (w.alloc (.cells (vs.map (fun v=>Value.slice v.1 v.2.1 v.2.2)).toArray T)) hm (by simpa using hl) (fun i hi=> ?_) (fun i hi=> ?_)
 ·rw[List.length_map]at h
  have e:fewB m (vs.map (·.2.1))=r:=by rw[hr];unfold fewB;rw[List.all_map];rfl
  rw[e]at h;exact h
 ·rw[List.length_map]at hi
  have:=hmax vs[i] (List.getElem_mem hi);simpa[List.getD_eq_getElem?_getD,hi]using this
 ·rw[List.length_map]at hi
  refine⟨vs[i].1,vs[i].2.2,?_⟩;rw[cell_of_row _ w.heap.size i _ T (0,0) (heap_alloc_new w _)];simp[List.getD_eq_getElem?_getD,hi]
theorem few2_yes(m:Nat)(A B:Option Addr)(n c n' c':Nat)(w:World)(T:TypeId)(hm:m<=1000000)(h:n<=m)(h':n'<=m):
 Calls Tryz.prog 4 #[.int .i64 (m:Int),.slice (some ⟨w.heap.size,0,none⟩) 2 2] (w.alloc (.cells #[.slice A n c,.slice B n' c'] T)) fun e w'=>e= .returned (.bool true)/\(w.alloc (.cells #[.slice A n c,.slice B n' c'] T))=w':=
 few_lit m [(A,n,c),(B,n',c')] w T hm (by simp) (by simp;omega) true (by simp[h,h'])
theorem few2_no(m:Nat)(A B:Option Addr)(n c n' c':Nat)(w:World)(T:TypeId)(hm:m<=1000000)(h:m<n\/m<n')(hn:n<=9223372036854775807)(hn':n'<=9223372036854775807):
 Calls Tryz.prog 4 #[.int .i64 (m:Int),.slice (some ⟨w.heap.size,0,none⟩) 2 2] (w.alloc (.cells #[.slice A n c,.slice B n' c'] T)) fun e w'=>e= .returned (.bool false)/\(w.alloc (.cells #[.slice A n c,.slice B n' c'] T))=w':=
 few_lit m [(A,n,c),(B,n',c')] w T hm (by simp) (by simp;omega) false (by simp;omega)
end Go.Proofs.YthecibbmbnpegaaGreatDoor
