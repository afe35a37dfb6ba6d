/-
  Part 21 of the proof of the law FnExpSum: XDrR, XPut. Conditions: those of each statement.
-/
import Derived.Test.YthecibbmbnpegaaGreatDoorK20
import Derived.Laws.Bits64
set_option linter.unusedSimpArgs false
set_option linter.unusedVariables false
set_option maxRecDepth 100000
set_option maxHeartbeats 1000000
namespace Go.Proofs.YthecibbmbnpegaaGreatDoor
open Go.Big Go.RowKit
attribute [local go_sem ↓] Go.wp_at_zero Go.wp_at_succ
structure DrP0(n lu lz s:Nat)(q:Option StkSt)(bz oz cz bu ou cu bv ov cv:Nat)(U V:List Int)(w:World):Prop where
 st:StkAt w s q
 len:lenS q+10000*(n+1)<=100000000000
 thr:Glo w 0 40
 td:Glo w 1 40
 z: ∃Z,Wr 51 w bz oz Z/\Z.length=lz
 u:Wr 51 w bu ou U
 ul:U.length=lu
 ud:DG 18446744073709551616 U
 v:Nm w (some ⟨bv,ov,none⟩) bv ov cv V
 kv:KnV n V
 fit:val 18446744073709551616 U<9223372036854775808*18446744073709551616^(n+lz-1)
 few:n<=900
 lz9:lz<=100000
 lu9:lu<=100000
 cz1:lz<=cz
 cz9:cz<=9223372036854775807
 cu1:lu<=cu
 cu9:cu<=9223372036854775807
 cv9:cv<=9223372036854775807
 dvu:Dj bv ov n bu ou lu
 dzu:Dj bz oz lz bu ou lu
 dvz:Dj bv ov n bz oz lz
 oz_:Off (StS s q) bz oz lz
 ou_:Off (StS s q) bu ou lu
 ov_:Off (StS s q) bv ov cv
section
variable {n lu lz s:Nat}{q:Option StkSt}{bz oz cz bu ou cu bv ov cv:Nat}{U V:List Int}{w w':World}
theorem DrP0.pre(h:DrP0 n lu lz s q bz oz cz bu ou cu bv ov cv U V w)(hz:Wr 51 w' bz oz (List.replicate lz 0))(hf:Fc 51 (In1 bz oz lz) w w'):DrPre n lu lz s q bz oz cz bu ou cu bv ov cv U V w':=by
 obtain⟨Z,hZ,_⟩:=h.z;have hZ':=hZ;obtain⟨_,LZ,hLZ,_⟩:=hZ';refine⟨st_in1 h.st hZ hf,h.len,h.thr.fc hf (fun e=>h.thr.row_ne hLZ e.1),h.td.fc hf (fun e=>h.td.row_ne hLZ e.1),hz,h.u.fc hf (by rw[h.ul];exact h.dzu.symm.off),h.ul,h.ud,h.v.fc hf (by rw[h.kv.len];exact h.dvz.off),h.kv,h.fit,h.few,h.lz9,h.lu9,h.cz1,h.cz9,h.cu1,h.cu9,h.cv9,h.dvu,h.dzu,h.dvz,h.oz_,h.ou_,h.ov_⟩
theorem DrPost.back{X Y:Int}{e:Ending}{w2:World}(h:DrPost s q bz oz lz bu ou lu X Y w' e w2)(hf:Fc 51 (In1 bz oz lz) w w'):DrPost s q bz oz lz bu ou lu X Y w e w2:=by
 obtain⟨q',Z',U',rfl,h1,h2,h3,h4,h5,h6,h7,h8,h9,h10,h11,h12⟩:=h;exact⟨q',Z',U',rfl,h1,h2.le hf.size,h3,h4,h5,h6,h7,h8,h9,h10,h11,(hf.mono (fun b j hh _=> .inr (.inl hh))).trans h12 (fun b j hh _=>hh)⟩
theorem dr_ok(n:Nat):DrOK n:=by
 induction n using Nat.strongRecOn with
 |_ n R=>
  intro lu lz s q bz oz cz bu ou cu bv ov cv U V d w h;obtain⟨i,hi⟩:=cut_at U;by_cases h0:i=0
  ·subst h0
   exact dr_zero d h hi
  by_cases h1:i<n
  ·exact dr_few d h hi (by omega) h1
  by_cases h2:n<40
  ·exact dr_basic d h hi (by omega) h2
  ·exact dr_main d h hi (by omega) (by omega) R
theorem divRecursive_any(h:DrP0 n lu lz s q bz oz cz bu ou cu bv ov cv U V w):
 Calls Tryz.prog 79 #[.slice (some ⟨bz,oz,none⟩) lz cz,.pointer (some ⟨s,0,none⟩),.slice (some ⟨bu,ou,none⟩) lu cu,.slice (some ⟨bv,ov,none⟩) n cv] w (DrPost s q bz oz lz bu ou lu (val 18446744073709551616 U) (val 18446744073709551616 V) w):=by
 obtain⟨Z,hZ,hZl⟩:=h.z;obtain⟨_,L,hL,hLl⟩:=hZ;rw[hZl]at hLl;have H:=κ h;have HL:=κ hL;have cz1:=h.cz1;have cz9:=h.cz9;have cu1:=h.cu1;have cu9:=h.cu9;have cv9:=h.cv9;clear h hL hZl;go_enter Tryz.func79,Tryz.ntmps79
 go_wp2_with (first
  |(refine wp_clear rfl (.tmp 8) _ rfl .u64 51 8 ty_big (some ⟨bz,oz,none⟩) bz oz lz cz rfl (fun _=>rfl) L HL.out hLl ?_;intro w2 row2 f2;have HR:=κ row2;have HF:=κ f2;clear row2 f2)
  |(go_at_call 114;have hlr:(List.replicate lz (0:Int)).length=lz:=List.length_replicate;have hf:Fc 51 (In1 bz oz lz) w w2:=fc_row (L':=L) HL.out HR.out HF.out (by rw[hlr];exact hLl) (fun i h1 h2=>⟨rfl,h1,by rw[hlr]at h2;exact h2⟩);refine(dr_ok n lu lz s q bz oz cz bu ou cu bv ov cv U V 0 w2 (H.out.pre (Wr.of_spl HR.out (by rw[hlr];exact hLl)) hf)).mono ?_;intro e w3 hp;have HP:=κ (hp.back hf);obtain⟨_,_,_,rfl,_⟩:=hp));first|go_end0|refine bodyPost_ret (results_none rfl _ _ _) rfl ?_
 exact HP.out
end
end Go.Proofs.YthecibbmbnpegaaGreatDoor
namespace Go.Proofs.YthecibbmbnpegaaGreatDoor
open Go.Big Go.RowKit
theorem snoc_put{w w1:World}{x ox lu:Nat}{Z zs:List Int}(c:Int)(h:Wr 51 w x ox Z)(hl:Z.length=lu+1)(h1:Wr 51 w1 x ox zs)(hzl:zs.length=lu)(hf:Fc 51 (In1 x ox lu) w w1):
 w1.frozen? ⟨x,ox+lu,none⟩=false/\(∃old,w1.cell? ⟨x,ox+lu,none⟩=some (.int .u64 old))/\Wr 51 (w1.setCell ⟨x,ox+lu,none⟩ (.int .u64 c)) x ox (zs++[c])/\Fc 51 (In1 x ox (lu+1)) w (w1.setCell ⟨x,ox+lu,none⟩ (.int .u64 c)):=by
 have h2:=h.upd (i:=0) h1 (by rw[hzl];exact hf) (by omega);have hl2:(spl Z 0 zs).length=lu+1:=by rw[spl_len (by omega),hl]
 have hs:=spl_set_end (L:=Z) (o:=0) (cs:=zs) (by omega) c;rw[spl_all (L:=Z) (cs:=zs++[c]) (by rw[List.length_append,hzl,hl];rfl),Nat.zero_add,hzl]at hs;have h3:=h2.set (j:=lu) (by omega) c;rw[hs]at h3;refine⟨h2.frozen _,⟨_,h2.cell (j:=lu) (by omega)⟩,h3,(hf.mono (fun b i hh _=>⟨hh.1,hh.2.1,by have:=hh.2.2;omega⟩)).t ((Fc.set1 h2 (j:=lu) (by omega) c).mono (fun b i hh _=>⟨hh.1,by have:=hh.2.1;omega,by have:=hh.2.2;omega⟩))⟩
def PutR(w:World)(A:Option Addr)(b o c:Nat)(V:Int)(A':Option Addr)(b' o' c':Nat)(zs:List Int)(w':World):Prop:=
 Nm w' A' b' o' c' zs/\DG 18446744073709551616 zs/\NZ zs/\val 18446744073709551616 zs=V/\((A'=A/\b'=b/\o'=o/\c'=c)\/(w.heap.size<=b'/\c'<=2000000))/\Fc 51 (In1 b o c) w w'
theorem In1.cap{b o n c x i:Nat}(h:In1 b o n x i)(hn:n<=c):In1 b o c x i:=⟨h.1,h.2.1,by have:=h.2.2;omega⟩
theorem makeR0(A:Option Addr)(l c:Nat)(w:World)(hl:l<=c)(hc:c<=maxLen):Calls Tryz.prog 42 #[.slice A l c,.int .i64 0] w fun e w'=>e= .returned (.slice A 0 c)/\w=w':=by
 unfold maxLen at hc;go_enter Tryz.func42,Tryz.ntmps42;go_wp2_with fail;go_ret;exact⟨rfl,rfl⟩
theorem setR0(A:Option Addr)(l b o c:Nat)(Ax:Option Addr)(cx:Nat)(w:World)(h:Rcv w A b o c)(hl:l<=c)(hcx:cx<=maxLen):
 Calls Tryz.prog 41 #[.slice A l c,.slice Ax 0 cx] w fun e w'=>e= .returned (.slice A 0 c)/\w=w':=by
 have hc:=h.max;have CM:=κ (makeR0 A l c w hl hc);unfold maxLen at hc hcx;go_enter Tryz.func41,Tryz.ntmps41
 go_wp2_with (first
  |(go_at_call 42;refine(CM.out).mono ?_;rintro e w1 ⟨rfl,rfl⟩)
  |(refine wpList_copy_nothing rfl (.tmp 9) (.tmp 10) _ _ rfl 51 Tryz.underlying43 size_wordS A Ax 0 c 0 cx rfl rfl rfl ?_));go_ret;exact⟨rfl,rfl⟩
theorem setR_all(A:Option Addr)(l b o c:Nat)(Ax:Option Addr)(bx ox cx:Nat)(xs:List Int)(w:World)(hx:Nm w Ax bx ox cx xs)(hd:DG 18446744073709551616 xs)(hzx:NZ xs)(h:Rcv w A b o c)(hl:l<=c)(hx9:xs.length<=1000000):
 Calls Tryz.prog 41 #[.slice A l c,.slice Ax xs.length cx] w fun e w'=> ∃A' b' o' c' zs,e= .returned (.slice A' zs.length c')/\PutR w A b o c (val 18446744073709551616 xs) A' b' o' c' zs w':=by
 by_cases h0:xs.length=0
 ·obtain rfl:xs=[]:=List.eq_nil_of_length_eq_zero h0
  refine(setR0 A l b o c Ax cx w h hl hx.max).mono ?_;rintro e w' ⟨rfl,rfl⟩;exact⟨A,b,o,c,[],rfl,Nm.nil h,DG.nil _,NZ.nil,rfl,.inl ⟨rfl,rfl,rfl,rfl⟩,Fc.refl _ _ _⟩
 ·have C:=κ (makeR_any A l b o c xs.length w h hl (by omega) (by omega))
  have HX:=κ hx;have HD:=κ hd;have HZ:=κ hzx;have HR:=κ h;clear hx hd hzx h0;go_enter Tryz.func41,Tryz.ntmps41
  go_wp2_with (first
   |(go_at_call 42;refine(Hid.out C).mono ?_;clear C;intro e w1 hm;obtain⟨b',o',c',Z,rfl,h1,h2,h3,h4,h5,h6,h7⟩:=hm.out (fun hc=>HR.out.lt hc);have H2:=κ h2;have H3:=κ h3;have H4:=κ h4;have H5:=κ h5;have H7:=κ h7;have H1:=κ h1;obtain⟨_,L,hL,hLl⟩:=h3;have HL:=κ hL;have HLL:=κ (show o'+xs.length<=L.length by omega);clear hm h2 h4 h5 h6 h7 hL hLl)
   |(refine wp_copy rfl (.tmp 9) (.tmp 10) _ _ rfl .u64 51 Tryz.underlying43 size_wordS b' o' xs.length c' rfl _ xs rfl (HX.out.fr0 H5.out).sl L HL.out HLL.out ?_;intro w2 row2 f2;have HR2:=κ row2;have HF2:=κ f2;clear row2 f2));go_ret;have row2:=HR2.out;rw[List.take_length]at row2;have hf2:Fc 51 (In1 b' o' xs.length) w1 w2:=fc_row (L':=L) HL.out row2 HF2.out HLL.out (fun i a1 a2=>⟨rfl,a1,a2⟩);refine⟨_,b',o',c',xs,rfl,Nm.of_wr (Wr.of_spl row2 HLL.out) (H2.out.fc hf2) h1,HD.out,HZ.out,rfl,H7.out.imp id (fun a=>⟨a.1,by have:=a.2;omega⟩),(Fc.fr0 H5.out _ _).trans hf2 (fun x i hh hlt=> ?_)⟩;rcases H7.out with⟨_,rfl,rfl,rfl⟩|⟨a,_⟩
  ·exact In1.cap hh h1
  ·have:=hh.1;omega
theorem setWordR_any(A:Option Addr)(l b o c:Nat)(x:Int)(w:World)(h:Rcv w A b o c)(hl:l<=c)(h0:0<=x)(h1:x<18446744073709551616):
 Calls Tryz.prog 46 #[.slice A l c,.int .u64 x] w fun e w'=> ∃A' b' o' c' zs,e= .returned (.slice A' zs.length c')/\PutR w A b o c x A' b' o' c' zs w':=by
 have hc:=h.max;unfold maxLen at hc;by_cases hx:x=0
 ·subst hx
  have HR:=κ h;clear h;go_enter Tryz.func46,Tryz.ntmps46;go_wp2_with fail;go_ret;exact⟨A,b,o,c,[],rfl,Nm.nil HR.out,DG.nil _,NZ.nil,rfl,.inl ⟨rfl,rfl,rfl,rfl⟩,Fc.refl _ _ _⟩
 ·have hx':(x==0)=false:=by rw[beq_eq_false_iff_ne];exact hx
  have C:=κ (makeR_any A l b o c 1 w h hl (by omega) (by omega));have HR:=κ h;clear h;go_enter Tryz.func46,Tryz.ntmps46;go_wp2_with (go_at_call 42;refine(Hid.out C).mono ?_;clear C;intro e w1 hm;obtain⟨b',o',c',Z,rfl,g1,h2,h3,h4,h5,h6,h7⟩:=hm.out (fun hc=>HR.out.lt hc);have hfz:=h3.frozen o';have cz:=h3.cell (j:=0) (by omega);rw[Nat.add_zero]at cz;obtain⟨old,hold⟩: ∃old,old=Z.getD 0 0:=⟨_,rfl⟩;rw[<-hold]at cz;have H2:=κ h2;have H3:=κ h3;have H4:=κ h4;have H5:=κ h5;have H7:=κ h7;clear hm h2 h3 h4 h5 h6 h7 hold);go_ret;have hs:=H3.out.set (j:=0) (by have:=H4.out;omega) x;have hf:=Fc.set1 H3.out (j:=0) (by have:=H4.out;omega) x;rw[Nat.add_zero]at hs hf;obtain⟨z0,rfl⟩:=List.length_eq_one_iff.1 H4.out;rw[show[z0].set 0 x=[x]from rfl]at hs;refine⟨_,b',o',c',[x],rfl,Nm.of_wr hs (H2.out.fc hf) g1,DG.cons h0 h1 (DG.nil _),.inr (by simpa using hx),by simp[val_cons,val_nil],H7.out.imp id (fun a=>⟨a.1,by have:=a.2;omega⟩),(Fc.fr0 H5.out _ _).trans hf (fun x i hh hlt=> ?_)⟩;rcases H7.out with⟨_,rfl,rfl,rfl⟩|⟨a,_⟩
  ·exact In1.cap hh g1
  ·have:=hh.1;omega
end Go.Proofs.YthecibbmbnpegaaGreatDoor
