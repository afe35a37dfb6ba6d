/-
  Part 18 of the proof of the law FnExpSum: XCmpG. Conditions: those of each statement.
-/
import Derived.Test.YthecibbmbnpegaaGreatDoorK03
set_option linter.unusedSimpArgs false
set_option linter.unusedVariables false
set_option maxRecDepth 100000
set_option maxHeartbeats 2000000
namespace Go.Proofs.YthecibbmbnpegaaGreatDoor
open Go.Big Go.RowKit
theorem bcmp_gen(va vb:Value)(da db:List Int)(w:World)(ha:Sl .u64 w va da)(hb:Sl .u64 w vb db)(dga:DG 18446744073709551616 da)(dgb:DG 18446744073709551616 db)(hlt:da.length<db.length->val 18446744073709551616 da<val 18446744073709551616 db)(hgt:db.length<da.length->val 18446744073709551616 db<val 18446744073709551616 da):
 Calls Tryz.prog 47 #[va,vb] w fun e w'=>e= .returned (.int .i64 (cmpI (val 18446744073709551616 da) (val 18446744073709551616 db)))/\Fr [] w w':=by
 obtain⟨A,ca,rfl,hla,hma,hsa⟩:=ha;obtain⟨B,cb,rfl,hlb,hmb,hsb⟩:=hb;unfold maxLen at hma hmb;have DA:=κ dga;have DB:=κ dgb;have NA:=κ hgt;have NB:=κ hlt;clear dga dgb hgt hlt;rcases Nat.lt_trichotomy da.length db.length with h|h|h
 ·have hne:(((da.length:Int)==(db.length:Int)))=false:=by simp;omega
  go_enter Tryz.func47,Tryz.ntmps47;go_wp2;go_ret;exact⟨by rw[cmpI_lt (NB.out h)];rfl,Fr.refl _ _⟩
 ·obtain⟨n,hn⟩: ∃n,n=db.length:=⟨_,rfl⟩
  have hna:da.length=n:=by omega
  rw[hna]at hla ⊢
  rw[<-hn]at hlb ⊢
  have HN:=κ hn;have HNA:=κ hna;rcases Nat.eq_zero_or_pos n with h0|h0
  ·have e1:da=[]:=List.eq_nil_of_length_eq_zero (by omega)
   have e2:db=[]:=List.eq_nil_of_length_eq_zero (by omega);have E1:=κ e1;have E2:=κ e2;clear e1 e2 hn hna h hsa hsb;subst h0;go_enter Tryz.func47,Tryz.ntmps47;go_wp2;go_ret;rw[E1.out,E2.out,cmpI_eq];exact⟨rfl,Fr.refl _ _⟩
  ·obtain⟨m,hm⟩: ∃m,n=m+1:=⟨n-1,by omega⟩
   obtain⟨ba,oa,rfl,_,sa⟩:=hsa (by omega);obtain⟨bb,ob,rfl,_,sb⟩:=hsb (by omega);have SA:=κ sa;have SB:=κ sb;have HM:=κ hm;have hE:da.length=db.length:=h;clear hsa hsb sa sb hn hna h;subst hm;have hnz:(((m:Int)+1==0))=false:=by simp;omega
   have HE:=κ hE;clear hE;go_enter Tryz.func47,Tryz.ntmps47;go_wp2_with fail;go_loopg [7] (m+1) (fun g iv wr=> ∃k:Nat,k<=m/\g=k+1/\iv= .int .i64 k/\(∀j,k<j->j<da.length->da.getD j 0=db.getD j 0)/\Fr [] w wr);case atStart=>exact⟨m,Nat.le_refl _,rfl,rfl,fun j h1 h2=>absurd h2 (by rw[HNA.out];have:=HM.out;omega),Fr.refl _ _⟩
   case round=>
    obtain⟨k,hk,rfl,rfl,hsame,hf⟩:=hrel;have HS:=κ hsame;clear hsame;have hka:k<da.length:=by rw[HNA.out];have:=HM.out;omega
    have hkb:k<db.length:=by rw[<-HE.out];exact hka
    have cA:=(SA.out.fr hf (by simp)) k hka;have cB:=(SB.out.fr hf (by simp)) k hkb;obtain⟨x,hx⟩: ∃x,x=da.getD k 0:=⟨_,rfl⟩;obtain⟨y,hy⟩: ∃y,y=db.getD k 0:=⟨_,rfl⟩;rw[<-hx]at cA;rw[<-hy]at cB;have HX:=κ hx;have HY:=κ hy;clear hx hy;rcases Nat.eq_zero_or_pos k with h00|h00
    ·subst h00
     simp only[Nat.add_zero]at cA cB;rcases Int.lt_trichotomy x y with hc|hc|hc
     ·have hne:(x==y)=false:=by simp;omega
      go_wp2_with fail;go_quiet (fail);go_wp2_with fail;go_quiet (fail);go_wp2_with fail;go_ret;exact⟨by rw[cmpI_lt (lt_of_top (by omega) DA.out DB.out HE.out hka HS.out (by rw[<-HX.out,<- HY.out];exact hc))];rfl,by repeat (first|exact hf|apply Fr.drewN)⟩
     ·subst hc
      go_wp2_with fail;go_quiet (fail);go_wp2_with fail;go_quiet (fail);go_wp2_with fail;go_quiet (fail);go_wp2_with fail;go_ret
      have he:da=db:=by
       apply List.ext_getElem HE.out;intro j h1 h2;by_cases e:j=0
       ·subst e;have h3:=HX.out;rw[HY.out]at h3;rw[getD_in h1,getD_in h2]at h3;exact h3.symm
       ·have h3:=HS.out j (by omega) h1;rwa[getD_in h1,getD_in h2]at h3
      rw[he,cmpI_eq];exact⟨rfl,by repeat (first|exact hf|apply Fr.drewN)⟩
     ·have hne:(x==y)=false:=by simp;omega
      go_wp2_with fail;go_quiet (fail);go_wp2_with fail;go_quiet (fail);go_wp2_with fail;go_quiet (fail);go_wp2_with fail;go_ret;exact⟨by rw[cmpI_gt (lt_of_top (by omega) DB.out DA.out HE.out.symm hkb (fun i h1 h2=>(HS.out i h1 (by have:=HE.out;omega)).symm) (by rw[<-HX.out,<- HY.out];exact hc))];rfl,by repeat (first|exact hf|apply Fr.drewN)⟩
    ·obtain⟨j,rfl⟩: ∃j,k=j+1:=⟨k-1,by omega⟩
     rcases Int.lt_trichotomy x y with hc|hc|hc
     ·have hne:(x==y)=false:=by simp;omega
      go_wp2_with fail;go_quiet (fail);go_wp2_with fail;go_quiet (fail);go_wp2_with fail;go_ret;exact⟨by rw[cmpI_lt (lt_of_top (by omega) DA.out DB.out HE.out hka HS.out (by rw[<-HX.out,<- HY.out];exact hc))];rfl,by repeat (first|exact hf|apply Fr.drewN)⟩
     ·subst hc
      go_wp2_with fail;go_quiet (fail);go_wp2_with fail;go_roundg (j+1);case measure=>omega
      case rel=>
       refine⟨j,by omega,rfl,rfl,fun i h1 h2=> ?_,hf.drewN _⟩;by_cases e:i=j+1
       ·subst e;rw[<-HX.out,HY.out]
       ·exact HS.out i (by omega) h2
     ·have hne:(x==y)=false:=by simp;omega
      go_wp2_with fail;go_quiet (fail);go_wp2_with fail;go_quiet (fail);go_wp2_with fail;go_quiet (fail);go_wp2_with fail;go_ret;exact⟨by rw[cmpI_gt (lt_of_top (by omega) DB.out DA.out HE.out.symm hkb (fun i h1 h2=>(HS.out i h1 (by have:=HE.out;omega)).symm) (by rw[<-HX.out,<- HY.out];exact hc))];rfl,by repeat (first|exact hf|apply Fr.drewN)⟩
 ·have hne:(((da.length:Int)==(db.length:Int)))=false:=by simp;omega
  go_enter Tryz.func47,Tryz.ntmps47;go_wp2;go_ret;exact⟨by rw[cmpI_gt (NA.out h)];rfl,Fr.refl _ _⟩
end Go.Proofs.YthecibbmbnpegaaGreatDoor
