/-
  Part 3 of the proof of the law FnExpSum: XgWord. Conditions: those of each statement.
-/
import Derived.Test.YthecibbmbnpegaaGreatDoorK02
import Derived.RegionTactic
import Derived.ChangeAlike
import Derived.Laws.MathBits
import Derived.Laws.Bits64
import Derived.Laws.Externs
import Derived.KernelRfl
set_option linter.unusedSimpArgs false
set_option linter.unusedVariables false
set_option maxRecDepth 100000
set_option maxHeartbeats 1000000
section
namespace Go.Proofs.YthecibbmbnpegaaGreatDoor
open Go.Big Go.RowKit
def fewB(most:Nat)(lens:List Nat):Bool:=lens.all fun n=>decide (n<=most)
theorem few_any(most:Nat)(g:Nat)(lens:List Nat)(w:World)(hm:most<=1000000)(hl:lens.length<=1000)(hmax: ∀i,i<lens.length->lens.getD i 0<=9223372036854775807)
 (hc: ∀i,i<lens.length-> ∃A c,w.cell? ⟨g,i,none⟩=some (.slice A (lens.getD i 0) c)):
 Calls Tryz.prog 4 #[.int .i64 most,.slice (some ⟨g,0,none⟩) lens.length lens.length] w fun e w'=>e= .returned (.bool (fewB most lens))/\w=w':=by
 have HC:=κ hc;have HM:=κ hmax;clear hc hmax;go_enter Tryz.func4,Tryz.ntmps4;go_wp2_with fail;go_loopg [9] lens.length (fun k iv wr=> ∃i:Nat,i<=lens.length/\k=lens.length-i/\iv= .int .i64 i/\(lens.take i).all (fun n=>decide (n<=most))=true/\w=wr);case atStart=>exact⟨0,by omega,rfl,rfl,rfl,rfl⟩
 case round=>
  obtain⟨i,hi,rfl,rfl,hall,rfl⟩:=hrel;have HA:=κ hall;clear hall;by_cases h1:i<lens.length
  ·obtain⟨A,c,hcell⟩:=HC.out i h1
   have hb:=HM.out i h1;obtain⟨n,hn⟩: ∃n,n=lens.getD i 0:=⟨_,rfl⟩;rw[<-hn]at hcell hb;have HN:=κ hn;clear hn;by_cases h2:most<n
   ·go_wp2_with fail
    go_ret;refine⟨?_,rfl⟩
    have:fewB most lens=false:=by
     unfold fewB;rw[List.all_eq_false];refine⟨lens[i],List.getElem_mem h1,?_⟩;have:n=lens[i]:=by rw[HN.out];simp[List.getD_eq_getElem?_getD,h1]
     simp;omega
    rw[this];rfl
   ·go_wp2_with fail
    go_roundg (lens.length-(i+1));case measure=>omega
    case rel=>
     refine⟨i+1,by omega,rfl,by go_num,?_,rfl⟩;have:n=lens[i]:=by rw[HN.out];simp[List.getD_eq_getElem?_getD,h1]
     rw[List.take_succ_eq_append_getElem h1,List.all_append,HA.out];simp;omega
  ·go_wp2_with fail
   go_ret;refine⟨?_,rfl⟩;have h:=HA.out;rw[List.take_of_length_le (by omega)]at h;rw[show fewB most lens=true from h];rfl
end Go.Proofs.YthecibbmbnpegaaGreatDoor
end
section
namespace Go.Proofs.YthecibbmbnpegaaGreatDoor
open Go.Big Go.RowKit
theorem bnorm_sl(v:Value)(xs:List Int)(w:World)(hx:Sl .u64 w v xs)(hd:DG 18446744073709551616 xs):
 Calls Tryz.prog 34 #[v] w fun e w'=>(∃v',e= .returned v'/\SW w v' (val 18446744073709551616 xs))/\w=w':=by
 have hx':=hx;obtain⟨A,cap,rfl,h1,h2,h3⟩:=hx;refine(bnorm_any A cap xs w h1 h2 (fun hp=> ?_)).mono ?_
 ·obtain⟨b,off,e,_,hs⟩:=h3 hp
  exact⟨b,off,e,hs⟩
 ·rintro e w' ⟨i,⟨hi,hz,hzs⟩,rfl,rfl⟩
  exact⟨⟨_,rfl,xs.take i,hx'.cut hi,hd.take i,nz_take hi hz,val_cut _ hi hzs⟩,rfl⟩
theorem zzNorm_any(v:Value)(xs:List Int)(w:World)(hx:Sl .u64 w v xs)(hd:DG 18446744073709551616 xs)(hl:xs.length<=1000000):
 Calls Tryz.prog 29 #[v] w (RetW (val 18446744073709551616 xs) w):=by
 have HD:=κ hd;have HX:=κ hx;clear hd hx;go_enter Tryz.func29,Tryz.ntmps29
 go_wp2_with (first
  |(go_at_call 28;refine(zzIn_any v xs _ HX.out hl).mono ?_;rintro e w1 ⟨b1,rfl,row1,hb1,f1⟩)
  |(go_at_call 34;refine(bnorm_sl _ xs _ (row1.sl (by omega)) HD.out).mono ?_;rintro e w2 ⟨⟨v2,rfl,⟨ys,sl2,dg2,nz2,hv2⟩⟩,rfl⟩;have HV2:=κ hv2;clear hv2)
  |(go_at_call 26;refine(zzOut_any _ ys _ sl2 ?_).mono ?_;rotate_left;rintro e w3 ⟨v3,rfl,sl3,f3⟩))
 ·go_ret
  exact⟨v3,rfl,⟨ys,sl3,dg2,nz2,HV2.out⟩,f1.t f3⟩
 ·have h1:=val_lt (B:=18446744073709551616) (by omega) HD.out
  rw[<-HV2.out]at h1;have:=len_le (B:=18446744073709551616) (by omega) dg2 nz2 h1;omega
theorem implnorm_any(v:Value)(xs:List Int)(w:World)(hx:Sl .u64 w v xs)(hd:DG 18446744073709551616 xs)(hl:xs.length<=1000000):
 Calls Tryz.prog 19 #[v] w (RetW (val 18446744073709551616 xs) w):=by
 have HD:=κ hd;have HX:=κ hx;clear hd hx;go_enter Tryz.func19,Tryz.ntmps19
 go_wp2_with (first
  |(go_at_call 30;refine(clone_any v xs _ HX.out hl).mono ?_;rintro e w1 ⟨v1,rfl,sl1,f1⟩)
  |(go_at_call 29;refine(zzNorm_any _ xs _ sl1 HD.out hl).mono ?_;rintro e w2 ⟨v2,rfl,sw2,f2⟩));go_ret;exact⟨v2,rfl,sw2,f1.t f2⟩
end Go.Proofs.YthecibbmbnpegaaGreatDoor
end
section
namespace Go.Proofs.YthecibbmbnpegaaGreatDoor
open Go.Big Go.RowKit
theorem ret_two{k l:IntKind}{a b c d:Int}(h:a=b)(h':c=d):Ending.returned (.tuple #[.int k a,.int l c])= .returned (.tuple #[.int k b,.int l d]):=by rw[h,h']
theorem mul64_any(x y:Int)(w:World)(hx0:0<=x)(hx1:x<18446744073709551616)(hy0:0<=y)(hy1:y<18446744073709551616):
 Calls Tryz.prog 139 #[.int .u64 x,.int .u64 y] w fun e w'=>e= .returned (.tuple #[.int .u64 (x*y/18446744073709551616),.int .u64 (x*y%18446744073709551616)])/\w=w':=by
 go_enter Tryz.func139,Tryz.ntmps139;go_wp2;go_ret2;refine⟨?_,rfl⟩;have e:=mul64_up x y hx0 hx1 hy0 hy1;have e1:=and_low32 x hx0 hx1;have e2:=and_low32 y hy0 hy1;refine ret_two ?_ ?_
 ·simp only[e1,e2,IntKind.wrap_u64]
  rw[and_low32 _ (Int.emod_nonneg _ (by omega)) (Int.emod_lt_of_pos _ (by omega))];exact e
 ·exact IntKind.wrap_u64 _
theorem bmul_any(x y:Int)(w:World)(hx0:0<=x)(hx1:x<18446744073709551616)(hy0:0<=y)(hy1:y<18446744073709551616):
 Calls Tryz.prog 131 #[.int .u64 x,.int .u64 y] w fun e w'=>e= .returned (.tuple #[.int .u64 (x*y/18446744073709551616),.int .u64 (x*y%18446744073709551616)])/\w=w':=by
 go_enter Tryz.func131,Tryz.ntmps131;go_wp2_with (go_at_call 139;refine(mul64_any x y _ hx0 hx1 hy0 hy1).mono ?_;rintro e w' ⟨rfl,rfl⟩);go_ret2;exact⟨rfl,rfl⟩
theorem mulWW_any(x y:Int)(w:World)(hx0:0<=x)(hx1:x<18446744073709551616)(hy0:0<=y)(hy1:y<18446744073709551616):
 Calls Tryz.prog 102 #[.int .u64 x,.int .u64 y] w fun e w'=>e= .returned (.tuple #[.int .u64 (x*y/18446744073709551616),.int .u64 (x*y%18446744073709551616)])/\w=w':=by
 go_enter Tryz.func102,Tryz.ntmps102;go_wp2_with (go_at_call 131;refine(bmul_any x y _ hx0 hx1 hy0 hy1).mono ?_;rintro e w' ⟨rfl,rfl⟩);go_ret2;exact⟨rfl,rfl⟩
def addEntry:Array Value->Sem Value:=fun args=>do
 let(x,y,c) <-Extern.MathBitsCarry.three "Add64" args
 pure (Extern.MathBitsCarry.pair ((x+y+c)%Extern.MathBitsCarry.m64) ((x+y+c)/Extern.MathBitsCarry.m64))
theorem run_addEntry(P:Program)(x y c:Nat)(hc:c<=1)(w:World):(addEntry #[.int .u64 x,.int .u64 y,.int .u64 c]).run P w=
 .ok (.tuple #[.int .u64 (((x+y+c)%18446744073709551616:Nat):Int),.int .u64 (((x+y+c)/18446744073709551616:Nat):Int)]) w:=by
 have:c=0\/c=1:=by omega
 rcases this with rfl|rfl<;>rfl
theorem run_badd64(x y c:Int)(hx0:0<=x)(hy0:0<=y)(hc0:0<=c)(hc1:c<=1)(w:World):
 (callFunc 108 #[.int .u64 x,.int .u64 y,.int .u64 c]).run Tryz.prog w=
   .ok (.value (.tuple #[.int .u64 ((x+y+c)%18446744073709551616),.int .u64 ((x+y+c)/18446744073709551616)])) w:=by
 obtain⟨a,rfl⟩:=Int.eq_ofNat_of_zero_le hx0;obtain⟨b,rfl⟩:=Int.eq_ofNat_of_zero_le hy0;obtain⟨d,rfl⟩:=Int.eq_ofNat_of_zero_le hc0;rw[run_callFunc_extern Tryz.func108 (by kernel_rfl) (by kernel_rfl) (by kernel_rfl) (e:=addEntry) (by kernel_rfl),run_addEntry _ a b d (by omega)];simp only[Result.andThen];congr 5<;>omega
theorem badd_any(x y c:Int)(w:World)(hx0:0<=x)(hx1:x<18446744073709551616)(hy0:0<=y)(hy1:y<18446744073709551616)(hc0:0<=c)(hc1:c<=1):
 Calls Tryz.prog 74 #[.int .u64 x,.int .u64 y,.int .u64 c] w fun e w'=>e= .returned (.tuple #[.int .u64 ((x+y+c)%18446744073709551616),.int .u64 ((x+y+c)/18446744073709551616)])/\w=w':=by
 have hr:=run_badd64 x y c hx0 hy0 hc0 hc1;go_enter Tryz.func74,Tryz.ntmps74;go_wp2;go_ret2;exact⟨rfl,rfl⟩
theorem mulAdd_any(x y c:Int)(w:World)(hx0:0<=x)(hx1:x<18446744073709551616)(hy0:0<=y)(hy1:y<18446744073709551616)(hc0:0<=c)(hc1:c<18446744073709551616):
 Calls Tryz.prog 135 #[.int .u64 x,.int .u64 y,.int .u64 c] w fun e w'=>e= .returned (.tuple #[.int .u64 ((x*y+c)/18446744073709551616),.int .u64 ((x*y+c)%18446744073709551616)])/\w=w':=by
 have hb:0<=x*y/\x*y<=340282366920938463426481119284349108225:=⟨Int.mul_nonneg hx0 hy0,Int.mul_le_mul (c:=18446744073709551615) (d:=18446744073709551615) (by omega) (by omega) hy0 (by omega)⟩;have C1:=κ (bmul_any x y w hx0 hx1 hy0 hy1);obtain⟨p,hp⟩: ∃p,p=x*y:=⟨_,rfl⟩;rw[<-hp]at hb C1 ⊢
 have C2:=κ (badd_any (p%18446744073709551616) c 0 w (by omega) (by omega) hc0 hc1 (by omega) (by omega))
 have e1:IntKind.u64.wrap (p/18446744073709551616+(p%18446744073709551616+c+0)/18446744073709551616)=(p+c)/18446744073709551616:=by
  rw[IntKind.wrap_u64];omega
 have e2:(p%18446744073709551616+c+0)%18446744073709551616=(p+c)%18446744073709551616:=by omega
 have E1:=κ e1;have E2:=κ e2;have HB:=κ hb;clear hp e1 e2 hb;obtain⟨a,ha⟩: ∃a,a=p/18446744073709551616:=⟨_,rfl⟩;obtain⟨b,hb⟩: ∃b,b=p%18446744073709551616:=⟨_,rfl⟩;rw[<-hb]at C2;rw[<-ha,<- hb]at C1;obtain⟨d,hd⟩: ∃d,d=(b+c+0)/18446744073709551616:=⟨_,rfl⟩;obtain⟨q,hq⟩: ∃q,q=(b+c+0)%18446744073709551616:=⟨_,rfl⟩;rw[<-hd,<- hq]at C2;have HA:=κ ha;have HBB:=κ hb;have HD:=κ hd;have HQ:=κ hq;clear ha hb hd hq;go_enter Tryz.func135,Tryz.ntmps135
 go_wp2_with (first
  |(go_at_call 131;refine(Hid.out C1).mono ?_;rintro e w1 ⟨rfl,rfl⟩)
  |(go_at_call 74;refine(Hid.out C2).mono ?_;rintro e w1 ⟨rfl,rfl⟩));go_ret2;refine⟨ret_two ?_ ?_,rfl⟩
 ·rw[<-E1.out,HD.out,HA.out,HBB.out]
 ·rw[<-E2.out,HQ.out,HBB.out]
theorem mulc_bound{x y c:Int}(hx0:0<=x)(hx1:x<18446744073709551616)(hy0:0<=y)(hy1:y<18446744073709551616)(hc0:0<=c)(hc1:c<18446744073709551616):
 0<=x*y+c/\x*y+c<=340282366920938463444927863358058659840:=by
 have h:0<=x*y/\x*y<=340282366920938463426481119284349108225:=⟨Int.mul_nonneg hx0 hy0,Int.mul_le_mul (c:=18446744073709551615) (d:=18446744073709551615) (by omega) (by omega) hy0 (by omega)⟩;omega
def borrow(x y c:Int):Int:=if x<y+c then 1 else 0
theorem borrow_eq{x y c:Int}(hx0:0<=x)(hx1:x<18446744073709551616)(hy0:0<=y)(hy1:y<18446744073709551616)(hc0:0<=c)(hc1:c<=1):
 (x-y-c)%18446744073709551616+y+c=x+18446744073709551616*borrow x y c:=by
 unfold borrow;split<;>omega
def subEntry:Array Value->Sem Value:=fun args=>do
 let(x,y,b) <-Extern.MathBitsCarry.three "Sub64" args
 pure (Extern.MathBitsCarry.pair ((x+Extern.MathBitsCarry.m64-y-b)%Extern.MathBitsCarry.m64) (if x<y+b then 1 else 0))
theorem run_subEntry(P:Program)(x y c:Nat)(hc:c<=1)(w:World):(subEntry #[.int .u64 x,.int .u64 y,.int .u64 c]).run P w=
 .ok (.tuple #[.int .u64 (((x+18446744073709551616-y-c)%18446744073709551616:Nat):Int),.int .u64 ((if x<y+c then 1 else 0:Nat):Int)]) w:=by
 have:c=0\/c=1:=by omega
 rcases this with rfl|rfl<;>rfl
theorem run_bsub64(x y c:Int)(hx0:0<=x)(hx1:x<18446744073709551616)(hy0:0<=y)(hy1:y<18446744073709551616)(hc0:0<=c)(hc1:c<=1)(w:World):
 (callFunc 133 #[.int .u64 x,.int .u64 y,.int .u64 c]).run Tryz.prog w=
   .ok (.value (.tuple #[.int .u64 ((x-y-c)%18446744073709551616),.int .u64 (borrow x y c)])) w:=by
 obtain⟨a,rfl⟩:=Int.eq_ofNat_of_zero_le hx0;obtain⟨b,rfl⟩:=Int.eq_ofNat_of_zero_le hy0;obtain⟨d,rfl⟩:=Int.eq_ofNat_of_zero_le hc0;rw[run_callFunc_extern Tryz.func133 (by kernel_rfl) (by kernel_rfl) (by kernel_rfl) (e:=subEntry) (by kernel_rfl),run_subEntry _ a b d (by omega)];simp only[Result.andThen];have e1:(((a+18446744073709551616-b-d)%18446744073709551616:Nat):Int)=((a:Int)-b-d)%18446744073709551616:=by omega
 have e2:((if a<b+d then 1 else 0:Nat):Int)=borrow a b d:=by unfold borrow;split<;>split<;>omega
 rw[e1,e2]
theorem bsub_any(x y c:Int)(w:World)(hx0:0<=x)(hx1:x<18446744073709551616)(hy0:0<=y)(hy1:y<18446744073709551616)(hc0:0<=c)(hc1:c<=1):
 Calls Tryz.prog 106 #[.int .u64 x,.int .u64 y,.int .u64 c] w fun e w'=>e= .returned (.tuple #[.int .u64 ((x-y-c)%18446744073709551616),.int .u64 (borrow x y c)])/\w=w':=by
 have hr:=run_bsub64 x y c hx0 hx1 hy0 hy1 hc0 hc1;obtain⟨d,hd⟩: ∃d,d=(x-y-c)%18446744073709551616:=⟨_,rfl⟩;obtain⟨b,hb⟩: ∃b,b=borrow x y c:=⟨_,rfl⟩;simp only[<-hd,<- hb]at hr ⊢
 clear hd hb;go_enter Tryz.func106,Tryz.ntmps106;go_wp2;go_ret2;exact⟨rfl,rfl⟩
end Go.Proofs.YthecibbmbnpegaaGreatDoor
end
