/-
  A part of the proof.
-/
import Derived.Test.YtpgmddjgcgpoeaaGreatD36
set_option linter.unusedVariables false
set_option linter.unusedSimpArgs false
set_option maxRecDepth 100000
set_option maxHeartbeats 8000000
namespace Go.Proofs.YtpgmddjgcgpoeaaGreat
open Go.RowKit
def NxPost (D:Doc) (A:Option Addr) (C bp:Nat) (w:World) (nd0:Value) (j:Nat) (acc:List Ex) (r:R (List Ex)) (e:Ending) (w':World):Prop :=
 (e=.returned (.bool false)/\(∃ p,r=.good acc p)/\∃ left nd,PN D A C bp w' left nd [] .nilIface 0/\Fr bp w nd0 w' nd) \/
 (e=.returned (.bool false)/\r=.bad/\(∃ b,w'.cell? ⟨bp,4,none⟩=some (.iface 105 (.pointer (some ⟨b,0,none⟩))))/\KB bp w w') \/
 (e=.returned (.bool true)/\∃ x k2 a n c nd,j<k2/\k2<=D.n/\docRun D k2 (acc++[x])=r/\VW D A C k2 a n c/\PN D A C bp w' (.slice a n c) nd (exNds 0 x) .nilIface 0/\Fr bp w nd0 w' nd/\∃ j1,lnP D j1=.good (some x) k2)
structure EP (D:Doc) (A:Option Addr) (C bp:Nat) (w0 w:World) (h:Nat):Prop where
 blk:∃ l nd er n,Blk w bp [.bool false,.slice A D.n C,l,nd,er,.int .i64 n] 66
 doc:DocAt D A C w
 err:Err w (bp+1) (.iface 105 (.pointer (some ⟨h,0,none⟩)))
 kb:KB bp w0 w
theorem EP.of {D:Doc} {A:Option Addr} {C bp N nst h:Nat} {w0 w:World} {left nd er:Value} {xs:List Value} (hp:PI D A C bp w left nd N xs er nst) (hE:Err w (bp+1) (.iface 105 (.pointer (some ⟨h,0,none⟩)))) (k:KB bp w0 w):EP D A C bp w0 w h :=
 ⟨⟨_,_,_,_,hp.blk⟩,hp.doc,hE,k⟩
theorem EP.pn {D:Doc} {A:Option Addr} {C bp nst h base:Nat} {w0 w w1:World} {left nd er:Value} {ns:List Nd} (hp:PN D A C bp w left nd ns er nst) (k1:Kp Nil w w1) (hE:Err w1 base (.iface 105 (.pointer (some ⟨h,0,none⟩)))) (hb:bp<base) (k:KB bp w0 w):EP D A C bp w0 w1 h:=by
 obtain ⟨xs,h1,_⟩:=hp.nil k1;exact EP.of h1 (hE.mono (by omega)) (k.trans (KB.nil k1))
theorem doc_data {D:Doc} {A:Option Addr} {C:Nat} {w:World} (h:DocAt D A C w):VW D A C 0 A D.n C:=by
 refine ⟨fun h0 => ?_,by omega,by omega⟩;obtain ⟨_,_,h1 | ⟨bd,o,e,_⟩⟩:=h
 ·omega
 ·exact ⟨bd,o,e,e⟩
theorem run_ta (b:Nat) (w:World):(Instr.typeAssert (.iface 105 (.pointer (some ⟨b,0,none⟩))) 64 105 true).run Tryz.prog w=.ok (.tuple #[.pointer (some ⟨b,0,none⟩),.bool true]) w:=by
 unfold Instr.typeAssert;simp [go_sem]
theorem next29_c (D:Doc) (A a:Option Addr) (C bp j n c:Nat) (w:World) (nd:Value) (N:Nat) (ys:List Value) (acc:List Ex) (r:R (List Ex)) (hP:PI D A C bp w (.slice a n c) nd N ys .nilIface 0) (hB:D.n<=1000000) (hv:VW D A C j a n c)
  (hr:docRun D j acc=r) (hno:r ≠ .opn) :
  Calls Tryz.prog 29 #[.pointer (some ⟨bp,0,none⟩)] w (NxPost D A C bp w nd j acc r):=by
 have hs:=D.small;have hC1:=hP.doc.1;have hC2:=hP.doc.2.1;have hlt:=hP.ltB;have hjn:j<=D.n:=by have:=hv.len;omega
 have hROW:∀ g,nd.ownBlock=some g->bp<g:=fun g hg => by have:=(hP.own.lt g hg).1;omega
 obtain ⟨na,nc,hnd,_,_⟩:=hP.form;subst hnd;have c4:=hP.blk.cell 4 rfl;have c3:=hP.blk.cell 3 rfl;have f3:=hP.blk.free 3;have hup:=fun w => upto62 na N nc w
 have hP1:=qqh hP.clear;have HF1:=qqh (Fr.self (bp:=bp) (w:=w) (nd:=.slice na N nc) (i:=3) (.slice na 0 nc));have HV:=qqh hv;have HR:=qqh hr;have HNO:=qqh hno;have HROW:=qqh hROW;have HFR:Hid (Fresh w (.slice na N nc) (.slice na 0 nc)):=.inl (by cases na <;> rfl);clear hP hv hr hno hROW;go_enter Tryz.func29,Tryz.ntmps29;go_wp2_with fail
 go_loopw [3] (fun _ wr => ∃ (j':Nat) (a1:Option Addr) (n1 c1:Nat),j<=j'/\j'<=D.n/\Hid (VW D A C j' a1 n1 c1)/\Hid (PN D A C bp wr (.slice a1 n1 c1) (.slice na 0 nc) [] .nilIface 0)/\Hid (docRun D j' acc=r)/\Hid (Kp (fun b => b=bp\/some b=(Value.slice na N nc).ownBlock) w wr)) (fun _ wr => lleft bp wr)
 case atStart => exact ⟨j,a,n,c,qqr _,hjn,HV,hP1,HR,HF1.out.1⟩
 case round =>
  obtain ⟨j',a1,n1,c1,hj1,hj2,hV,hP2,HR2,hK⟩:=hrel;have x2:=hP2.out.choose_spec.1.blk.cell 2 rfl;have x0:=hP2.out.choose_spec.1.blk.cell 0 rfl;have xf:=hP2.out.choose_spec.1.blk.free 2;have hKB:Hid (KB bp w wr):=hK.out.mono (fun b hb => by rcases hb with h | h;omega;have:=HROW.out b h.symm;omega);have HFr:Hid (Fr bp w (.slice na N nc) wr (.slice na 0 nc)):=⟨hK.out,HFR.out⟩;have hlft:=hP2.out.lleft;have HLL:=qqh hlft;clear hlft;go_wp2_with fail
  refine (skip_c D A a1 C j' n1 c1 _ (by exact hP2.out.doc) hV.out).mono ?_;rintro e w1 ⟨hw1,a2,n2,c2,rfl,hv2⟩;obtain rfl:=hw1.symm;have hg1:=wsEnd_ge D j';have hg2:=wsEnd_le D j';have HNL:=qqh (doc_nl (acc:=acc) hj2);have HCR:=qqh (@doc_cr D j' acc);have HCM:=qqh (@doc_cmt D j' acc);have HLN:=qqh (@doc_ln D j' acc);have HFI:=qqh (@doc_fin D j' acc hj2);have hws:Hid (noWs D (wsEnd D j')):=noWs_end D j';obtain ⟨j1,hj1'⟩:∃ j1,wsEnd D j'=j1:=⟨_,rfl⟩;rw [hj1'] at hv2 hg1 hg2 HNL HCR HCM HLN HFI hws;have HV2:=qqh hv2;have hl1:=qql hV.out.len;have hl1':=qql hV.out.len.symm;have hl2:=qql hv2.len;have hl2':=qql hv2.len.symm;have hltW:=hP2.out.ltB;clear hv2 hj1';rcases Nat.eq_zero_or_pos n2 with h0 | h0
  ·obtain ⟨p,hp⟩:=HFI.out (by omega);have HRG:Hid (∃ p,r=.good acc p):=⟨p,by rw [<- HR2.out];exact hp⟩;obtain rfl:=h0;clear hp;go_wp2_with fail
   go_ret;exact .inl ⟨rfl,HRG.out,_,_,hP2.out.setLeft _,HFr.out.trans (Fr.self _)⟩
  obtain ⟨bd,q,rfl,hb⟩:=HV2.out.bytes hP2.out.doc (by omega);have HBY:=qqh hb;have b0:=hb 0 (by omega);simp only [Nat.add_zero] at b0;clear hb;by_cases h10:D.c j1=10
  ·have e10:((D.c (j1):Int) == 10)=true:=(by rw [beq_iff_eq];omega);have HS:Hid (docRun D (j1+1) acc=r):=by
    show _=_;have hn:nlen D j1=1:=(by unfold nlen;rw [if_pos h10]);have:=HNL.out (by omega);rw [hn] at this;rw [<- this];exact HR2.out
   obtain ⟨a3,hva,hrun3⟩:=VW.from_ HV2.out hC1 1 1 rfl (by omega);have HVA:=qqh hva;clear h10 hva;go_wp2_with fail
   go_roundw
   case rel => exact ⟨j1+1,_,_,_,by omega,by omega,HVA,hP2.out.setLeft _,HS,hK.out.setCell (p:=⟨bp,2,none⟩) (.inl (.inl rfl)) _⟩
   case measure => rw [HLL.out,(hP2.out.setLeft _).lleft];omega
  have e10:((D.c (j1):Int) == 10)=false:=qqn (by omega);by_cases h13:D.c j1=13
  ·have e13:((D.c (j1):Int) == 13)=true:=(by rw [beq_iff_eq];omega);by_cases h10':D.c (j1+1)=10
   ·have hin1:=Doc.in_of (D:=D) (k:=j1+1) (by omega);have b1:=HBY.out 1 (by omega);have e10':((D.c (j1+1):Int) == 10)=true:=(by rw [beq_iff_eq];omega);have HS:Hid (docRun D (j1+2) acc=r):=by
     show _=_;have hn:nlen D j1=2:=(by unfold nlen;rw [if_neg h10,if_pos ⟨h13,h10'⟩]);have:=HNL.out (by omega);rw [hn] at this;rw [<- this];exact HR2.out
    obtain ⟨a3,hva,hrun3⟩:=VW.from_ HV2.out hC1 2 2 rfl (by omega);have HVA:=qqh hva;clear h13 h10' h10 hva;go_wp2_with fail
    go_roundw
    case rel => exact ⟨j1+2,_,_,_,by omega,by omega,HVA,hP2.out.setLeft _,HS,hK.out.setCell (p:=⟨bp,2,none⟩) (.inl (.inl rfl)) _⟩
    case measure => rw [HLL.out,(hP2.out.setLeft _).lleft];omega
   ·have HRB:Hid (r=.bad):=(by show _=_;rw [<- HR2.out];exact HCR.out (by unfold nlen;rw [if_neg h10,if_neg (fun x => h10' x.2)]) h13);have hcc:=qql HV2.out.cap;have hcc':=qql HV2.out.cap.symm;have hrunt:=upto_ (some ⟨bd,q,none⟩) n2 c2 1 1 rfl (by omega);rcases qqg 1 n2 with hl | hl
    ·have b1:=HBY.out 1 (by omega);have e10':((D.c (j1+1):Int) == 10)=false:=qqn (by omega);clear h13 h10' h10;go_wp2_with fail
     refine (newErr_c _ _ _ _ _ (by omega)).mono ?_;rintro e w4 ⟨⟨v,rfl,hE⟩,hk4⟩;obtain ⟨h,rfl⟩:=Err.ptr hE;have HEP:Hid (EP D A C bp w w4 h):=EP.pn hP2.out hk4 hE hltW hKB.out;clear hE hk4;obtain ⟨l9,nd9,er9,n9,hB9⟩:=HEP.out.blk;obtain ⟨h',ea,en,ec,es,hh',hge,hec,hEB⟩:=HEP.out.err;injection hh' with _ hh';injection hh' with hh';injection hh' with hh';injection hh' with hh';subst hh';have y1:=hB9.cell 1 rfl;have y4:=hB9.cell 4 rfl;have yf:=hB9.free 4;have z0:=hEB.cell 0 rfl;have zf:=hEB.free 0;have HB9:=qqh hB9;have HEB:=qqh hEB;clear hB9 hEB;have hta:=fun w => run_ta h w
     rcases Nat.eq_zero_or_pos en with hen | hen
     ·obtain rfl:=hen;by_cases ho1:ec<C
      ·obtain ⟨m,hm⟩:∃ m,C - ec=m:=⟨_,rfl⟩;have hmi:(C:Int) - ec=(m:Int):=(by omega);have hm1:1<=m:=(by omega);have HMI:=qqh hmi;clear hm hmi;by_cases ho2:m=D.n
       ·subst ho2;obtain ⟨a9,hv9,hrun9⟩:=VW.sub (doc_data HEP.out.doc) hC1 (D.n - 1) D.n ((D.n:Int) - 1) (D.n:Int) (by omega) rfl (by omega) (qqr _);have y4':=(HB9.out.other (a:=⟨h,0,none⟩) (by show bp ≠ h;omega) (.slice a9 (D.n - (D.n - 1)) (C - (D.n - 1)))).cell 4 rfl;have yf':=(HB9.out.other (a:=⟨h,0,none⟩) (by show bp ≠ h;omega) (.slice a9 (D.n - (D.n - 1)) (C - (D.n - 1)))).free 4;clear hv9;go_wp2_with fail
        refine (offset2_c D A ea C 0 ec bp _ (by exact y1) hC2 hec).mono ?_;rintro e w8 ⟨rfl,hw8⟩;obtain rfl:=hw8.symm;rw [HMI.out];go_wp2_with fail
        go_ret;refine .inr (.inl ⟨rfl,HRB.out,⟨h,?_⟩,?_⟩)
        ·exact ((HB9.out.other (a:=⟨h,0,none⟩) (by show bp ≠ h;omega) _).put 4 _).cell 4 rfl
        ·exact Kp.setCell (Kp.setCell HEP.out.kb (.inl (by show bp<=h;omega)) _) (.inl (qqr bp)) _
       ·have eo2:((m:Int) == (D.n:Int))=false:=qqn (by omega);go_wp2_with fail
        refine (offset2_c D A ea C 0 ec bp _ (by exact y1) hC2 hec).mono ?_;rintro e w8 ⟨rfl,hw8⟩;obtain rfl:=hw8.symm;rw [HMI.out];go_wp2_with fail
        go_ret;refine .inr (.inl ⟨rfl,HRB.out,⟨h,?_⟩,?_⟩)
        ·exact (HB9.out.put 4 _).cell 4 rfl
        ·exact Kp.setCell HEP.out.kb (.inl (qqr bp)) _
      ·go_wp2_with fail
       refine (offset2_c D A ea C 0 ec bp _ (by exact y1) hC2 hec).mono ?_;rintro e w8 ⟨rfl,hw8⟩;obtain rfl:=hw8.symm;go_wp2_with fail
       go_ret;refine .inr (.inl ⟨rfl,HRB.out,⟨h,?_⟩,?_⟩)
       ·exact (HB9.out.put 4 _).cell 4 rfl
       ·exact Kp.setCell HEP.out.kb (.inl (qqr bp)) _
     ·go_wp2_with fail
      go_ret;refine .inr (.inl ⟨rfl,HRB.out,⟨h,?_⟩,?_⟩)
      ·exact (HB9.out.put 4 _).cell 4 rfl
      ·exact Kp.setCell HEP.out.kb (.inl (qqr bp)) _
    ·obtain rfl:n2=1:=(by omega);clear h13 h10' h10;go_wp2_with fail
     refine (newErr_c _ _ _ _ _ (by omega)).mono ?_;rintro e w4 ⟨⟨v,rfl,hE⟩,hk4⟩;obtain ⟨h,rfl⟩:=Err.ptr hE;have HEP:Hid (EP D A C bp w w4 h):=EP.pn hP2.out hk4 hE hltW hKB.out;clear hE hk4;obtain ⟨l9,nd9,er9,n9,hB9⟩:=HEP.out.blk;obtain ⟨h',ea,en,ec,es,hh',hge,hec,hEB⟩:=HEP.out.err;injection hh' with _ hh';injection hh' with hh';injection hh' with hh';injection hh' with hh';subst hh';have y1:=hB9.cell 1 rfl;have y4:=hB9.cell 4 rfl;have yf:=hB9.free 4;have z0:=hEB.cell 0 rfl;have zf:=hEB.free 0;have HB9:=qqh hB9;have HEB:=qqh hEB;clear hB9 hEB;have hta:=fun w => run_ta h w
     rcases Nat.eq_zero_or_pos en with hen | hen
     ·obtain rfl:=hen;by_cases ho1:ec<C
      ·obtain ⟨m,hm⟩:∃ m,C - ec=m:=⟨_,rfl⟩;have hmi:(C:Int) - ec=(m:Int):=(by omega);have hm1:1<=m:=(by omega);have HMI:=qqh hmi;clear hm hmi;by_cases ho2:m=D.n
       ·subst ho2;obtain ⟨a9,hv9,hrun9⟩:=VW.sub (doc_data HEP.out.doc) hC1 (D.n - 1) D.n ((D.n:Int) - 1) (D.n:Int) (by omega) rfl (by omega) (qqr _);have y4':=(HB9.out.other (a:=⟨h,0,none⟩) (by show bp ≠ h;omega) (.slice a9 (D.n - (D.n - 1)) (C - (D.n - 1)))).cell 4 rfl;have yf':=(HB9.out.other (a:=⟨h,0,none⟩) (by show bp ≠ h;omega) (.slice a9 (D.n - (D.n - 1)) (C - (D.n - 1)))).free 4;clear hv9;go_wp2_with fail
        refine (offset2_c D A ea C 0 ec bp _ (by exact y1) hC2 hec).mono ?_;rintro e w8 ⟨rfl,hw8⟩;obtain rfl:=hw8.symm;rw [HMI.out];go_wp2_with fail
        go_ret;refine .inr (.inl ⟨rfl,HRB.out,⟨h,?_⟩,?_⟩)
        ·exact ((HB9.out.other (a:=⟨h,0,none⟩) (by show bp ≠ h;omega) _).put 4 _).cell 4 rfl
        ·exact Kp.setCell (Kp.setCell HEP.out.kb (.inl (by show bp<=h;omega)) _) (.inl (qqr bp)) _
       ·have eo2:((m:Int) == (D.n:Int))=false:=qqn (by omega);go_wp2_with fail
        refine (offset2_c D A ea C 0 ec bp _ (by exact y1) hC2 hec).mono ?_;rintro e w8 ⟨rfl,hw8⟩;obtain rfl:=hw8.symm;rw [HMI.out];go_wp2_with fail
        go_ret;refine .inr (.inl ⟨rfl,HRB.out,⟨h,?_⟩,?_⟩)
        ·exact (HB9.out.put 4 _).cell 4 rfl
        ·exact Kp.setCell HEP.out.kb (.inl (qqr bp)) _
      ·go_wp2_with fail
       refine (offset2_c D A ea C 0 ec bp _ (by exact y1) hC2 hec).mono ?_;rintro e w8 ⟨rfl,hw8⟩;obtain rfl:=hw8.symm;go_wp2_with fail
       go_ret;refine .inr (.inl ⟨rfl,HRB.out,⟨h,?_⟩,?_⟩)
       ·exact (HB9.out.put 4 _).cell 4 rfl
       ·exact Kp.setCell HEP.out.kb (.inl (qqr bp)) _
     ·go_wp2_with fail
      go_ret;refine .inr (.inl ⟨rfl,HRB.out,⟨h,?_⟩,?_⟩)
      ·exact (HB9.out.put 4 _).cell 4 rfl
      ·exact Kp.setCell HEP.out.kb (.inl (qqr bp)) _
  have e13:((D.c (j1):Int) == 13)=false:=qqn (by omega);by_cases h35:D.c j1=35
  ·have e35:((D.c (j1):Int) == 35)=true:=(by rw [beq_iff_eq];omega);have H35:=qqh h35;clear h35 h10 h13;go_wp2_with fail
   refine (scanCmt_c D A _ C j1 n2 c2 _ (by exact hP2.out.doc) HV2.out (by omega) H35.out).mono ?_;intro e w4 hpost;obtain ⟨rc,hrc⟩:∃ rc,cmtRun D j1=rc:=⟨_,rfl⟩;rw [hrc] at hpost;have HRC:=qqh hrc;have HPost:=qqh hpost;clear hpost hrc;cases rc with
   | opn =>
    exact absurd (show cmt D j1=.opn by unfold cmt;rw [if_pos H35.out];exact HRC.out) (cmt_not_opn D j1)
   | bad =>
    obtain ⟨⟨v,rfl,hE⟩,hk4⟩:=HPost.out;have HRB:Hid (r=.bad):=(by show _=_;rw [<- HR2.out,HCM.out H35.out,HRC.out]);obtain ⟨h,rfl⟩:=Err.ptr hE;have HEP:Hid (EP D A C bp w w4 h):=EP.pn hP2.out hk4 hE hltW hKB.out;clear hE hk4;obtain ⟨l9,nd9,er9,n9,hB9⟩:=HEP.out.blk;obtain ⟨h',ea,en,ec,es,hh',hge,hec,hEB⟩:=HEP.out.err;injection hh' with _ hh';injection hh' with hh';injection hh' with hh';injection hh' with hh';subst hh';have y1:=hB9.cell 1 rfl;have y4:=hB9.cell 4 rfl;have yf:=hB9.free 4;have z0:=hEB.cell 0 rfl;have zf:=hEB.free 0;have HB9:=qqh hB9;have HEB:=qqh hEB;clear hB9 hEB;have hta:=fun w => run_ta h w
    rcases Nat.eq_zero_or_pos en with hen | hen
    ·obtain rfl:=hen;by_cases ho1:ec<C
     ·obtain ⟨m,hm⟩:∃ m,C - ec=m:=⟨_,rfl⟩;have hmi:(C:Int) - ec=(m:Int):=(by omega);have hm1:1<=m:=(by omega);have HMI:=qqh hmi;clear hm hmi;by_cases ho2:m=D.n
      ·subst ho2;obtain ⟨a9,hv9,hrun9⟩:=VW.sub (doc_data HEP.out.doc) hC1 (D.n - 1) D.n ((D.n:Int) - 1) (D.n:Int) (by omega) rfl (by omega) (qqr _);have y4':=(HB9.out.other (a:=⟨h,0,none⟩) (by show bp ≠ h;omega) (.slice a9 (D.n - (D.n - 1)) (C - (D.n - 1)))).cell 4 rfl;have yf':=(HB9.out.other (a:=⟨h,0,none⟩) (by show bp ≠ h;omega) (.slice a9 (D.n - (D.n - 1)) (C - (D.n - 1)))).free 4;clear hv9;go_wp2_with fail
       refine (offset2_c D A ea C 0 ec bp _ (by exact y1) hC2 hec).mono ?_;rintro e w8 ⟨rfl,hw8⟩;obtain rfl:=hw8.symm;rw [HMI.out];go_wp2_with fail
       go_ret;refine .inr (.inl ⟨rfl,HRB.out,⟨h,?_⟩,?_⟩)
       ·exact ((HB9.out.other (a:=⟨h,0,none⟩) (by show bp ≠ h;omega) _).put 4 _).cell 4 rfl
       ·exact Kp.setCell (Kp.setCell HEP.out.kb (.inl (by show bp<=h;omega)) _) (.inl (qqr bp)) _
      ·have eo2:((m:Int) == (D.n:Int))=false:=qqn (by omega);go_wp2_with fail
       refine (offset2_c D A ea C 0 ec bp _ (by exact y1) hC2 hec).mono ?_;rintro e w8 ⟨rfl,hw8⟩;obtain rfl:=hw8.symm;rw [HMI.out];go_wp2_with fail
       go_ret;refine .inr (.inl ⟨rfl,HRB.out,⟨h,?_⟩,?_⟩)
       ·exact (HB9.out.put 4 _).cell 4 rfl
       ·exact Kp.setCell HEP.out.kb (.inl (qqr bp)) _
     ·go_wp2_with fail
      refine (offset2_c D A ea C 0 ec bp _ (by exact y1) hC2 hec).mono ?_;rintro e w8 ⟨rfl,hw8⟩;obtain rfl:=hw8.symm;go_wp2_with fail
      go_ret;refine .inr (.inl ⟨rfl,HRB.out,⟨h,?_⟩,?_⟩)
      ·exact (HB9.out.put 4 _).cell 4 rfl
      ·exact Kp.setCell HEP.out.kb (.inl (qqr bp)) _
    ·go_wp2_with fail
     go_ret;refine .inr (.inl ⟨rfl,HRB.out,⟨h,?_⟩,?_⟩)
     ·exact (HB9.out.put 4 _).cell 4 rfl
     ·exact Kp.setCell HEP.out.kb (.inl (qqr bp)) _
   | good u k2 =>
    obtain ⟨⟨m,rfl⟩,x,a3,n3,c3,rfl,hsl,hvw⟩:=HPost.out;obtain ⟨xa,xl,xc,rfl⟩:=hsl;have hk2:=cmtRun_gt H35.out HRC.out;have HVW:=qqh hvw;have hP3:=qqh (hP2.out.nil ((Kp.refl Nil wr).drewN m));have HCS:Hid (docRun D j' acc=docThen D acc (lnThen none (eolP D k2))):=(by show _=_;rw [HCM.out H35.out,HRC.out]);clear hvw HPost;go_wp2_with fail
    refine (eol_c D A a3 C k2 n3 c3 _ (by exact hP3.out.doc) HVW.out).mono ?_;intro e w5 hpost;obtain ⟨re,hre⟩:∃ re,eolP D k2=re:=⟨_,rfl⟩;rw [hre] at hpost HCS;have HRE:=qqh hre;have HPost:=qqh hpost;clear hpost hre;have hcase:(∃ k3,re=.good () k3)\/(re=.bad\/re=.opn):=by
     cases re with
     | good u k3 => exact .inl ⟨k3,rfl⟩
     | bad => exact .inr (.inl rfl)
     | opn => exact .inr (.inr rfl)
    rcases hcase with ⟨k3,rfl⟩ | hbad
    ·obtain ⟨hw5,a4,n4,c4,rfl,hv4⟩:=HPost.out;obtain rfl:=hw5;have HVA:=qqh hv4;have hge3:=eolP_ge HRE.out;have hl4:=qql hv4.len;have hl4':=qql hv4.len.symm;have HS:Hid (docRun D k3 acc=r):=(by show _=_;rw [<- HR2.out,HCS.out];show _=docRun D k3 (acc++[]);rw [List.append_nil]);have z2:=hP3.out.choose_spec.1.blk.cell 2 rfl;have zf:=hP3.out.choose_spec.1.blk.free 2;have hlv:=HVW.out.len;clear hv4;go_wp2_with fail
     go_roundw
     case rel => exact ⟨k3,_,_,_,by omega,by omega,HVA,hP3.out.setLeft _,HS,Kp.setCell (p:=⟨bp,2,none⟩) (hK.out.drewN m) (.inl (.inl rfl)) _⟩
     case measure => rw [HLL.out,(hP3.out.setLeft _).lleft];omega
    ·have herr:(∃ v,e=.returned (.tuple #[.slice none 0 0,v])/\Err w5 (wr.drewN m).heap.size v)/\Kp Nil (wr.drewN m) w5:=by
      rcases hbad with rfl | rfl
      ·exact HPost.out
      ·exact HPost.out
     obtain ⟨⟨v,rfl,hE⟩,hk4⟩:=herr;have HRB:Hid (r=.bad):=by
      show _=_;rw [<- HR2.out,HCS.out];rcases hbad with rfl | rfl
      ·rfl
      ·exfalso;have:=HRE.out;unfold eolP at this;split at this;cases this;split at this <;> cases this
     obtain ⟨h,rfl⟩:=Err.ptr hE;have HEP:Hid (EP D A C bp w w5 h):=EP.pn hP3.out hk4 hE hltW (hKB.out.trans (KB.nil ((Kp.refl Nil wr).drewN m)));clear hE hk4 hbad;obtain ⟨l9,nd9,er9,n9,hB9⟩:=HEP.out.blk;obtain ⟨h',ea,en,ec,es,hh',hge,hec,hEB⟩:=HEP.out.err;injection hh' with _ hh';injection hh' with hh';injection hh' with hh';injection hh' with hh';subst hh';have y1:=hB9.cell 1 rfl;have y4:=hB9.cell 4 rfl;have yf:=hB9.free 4;have z0:=hEB.cell 0 rfl;have zf:=hEB.free 0;have HB9:=qqh hB9;have HEB:=qqh hEB;clear hB9 hEB;have hta:=fun w => run_ta h w
     rcases Nat.eq_zero_or_pos en with hen | hen
     ·obtain rfl:=hen;by_cases ho1:ec<C
      ·obtain ⟨m,hm⟩:∃ m,C - ec=m:=⟨_,rfl⟩;have hmi:(C:Int) - ec=(m:Int):=(by omega);have hm1:1<=m:=(by omega);have HMI:=qqh hmi;clear hm hmi;by_cases ho2:m=D.n
       ·subst ho2;obtain ⟨a9,hv9,hrun9⟩:=VW.sub (doc_data HEP.out.doc) hC1 (D.n - 1) D.n ((D.n:Int) - 1) (D.n:Int) (by omega) rfl (by omega) (qqr _);have y4':=(HB9.out.other (a:=⟨h,0,none⟩) (by show bp ≠ h;omega) (.slice a9 (D.n - (D.n - 1)) (C - (D.n - 1)))).cell 4 rfl;have yf':=(HB9.out.other (a:=⟨h,0,none⟩) (by show bp ≠ h;omega) (.slice a9 (D.n - (D.n - 1)) (C - (D.n - 1)))).free 4;clear hv9;go_wp2_with fail
        refine (offset2_c D A ea C 0 ec bp _ (by exact y1) hC2 hec).mono ?_;rintro e w8 ⟨rfl,hw8⟩;obtain rfl:=hw8.symm;rw [HMI.out];go_wp2_with fail
        go_ret;refine .inr (.inl ⟨rfl,HRB.out,⟨h,?_⟩,?_⟩)
        ·exact ((HB9.out.other (a:=⟨h,0,none⟩) (by show bp ≠ h;omega) _).put 4 _).cell 4 rfl
        ·exact Kp.setCell (Kp.setCell HEP.out.kb (.inl (by show bp<=h;omega)) _) (.inl (qqr bp)) _
       ·have eo2:((m:Int) == (D.n:Int))=false:=qqn (by omega);go_wp2_with fail
        refine (offset2_c D A ea C 0 ec bp _ (by exact y1) hC2 hec).mono ?_;rintro e w8 ⟨rfl,hw8⟩;obtain rfl:=hw8.symm;rw [HMI.out];go_wp2_with fail
        go_ret;refine .inr (.inl ⟨rfl,HRB.out,⟨h,?_⟩,?_⟩)
        ·exact (HB9.out.put 4 _).cell 4 rfl
        ·exact Kp.setCell HEP.out.kb (.inl (qqr bp)) _
      ·go_wp2_with fail
       refine (offset2_c D A ea C 0 ec bp _ (by exact y1) hC2 hec).mono ?_;rintro e w8 ⟨rfl,hw8⟩;obtain rfl:=hw8.symm;go_wp2_with fail
       go_ret;refine .inr (.inl ⟨rfl,HRB.out,⟨h,?_⟩,?_⟩)
       ·exact (HB9.out.put 4 _).cell 4 rfl
       ·exact Kp.setCell HEP.out.kb (.inl (qqr bp)) _
     ·go_wp2_with fail
      go_ret;refine .inr (.inl ⟨rfl,HRB.out,⟨h,?_⟩,?_⟩)
      ·exact (HB9.out.put 4 _).cell 4 rfl
      ·exact Kp.setCell HEP.out.kb (.inl (qqr bp)) _
  have e35:((D.c (j1):Int) == 35)=false:=qqn (by omega);have hlno:Hid (lnP D j1 ≠ .opn):=by
   show _ ≠ _;intro e
   apply HNO.out
   rw [<- HR2.out,(HLN.out (by omega)).1,e];rfl
  by_cases h91:D.c j1=91
  ·have e91:((D.c (j1):Int) == 91)=true:=(by rw [beq_iff_eq];omega);have H91:=qqh h91;clear h91 h10 h13 h35;go_wp2_with fail
   refine (etb_c D A _ C bp j1 n2 c2 _ _ (.slice na 0 nc) .nilIface [] 0 (by exact hP2.out) (by simp;omega) HV2.out H91.out hlno.out).mono ?_;intro e w4 hpost;obtain ⟨rl,hrl⟩:∃ rl,lnP D j1=rl:=⟨_,rfl⟩;rw [hrl] at hpost;have HRL:=qqh hrl;have HPost:=qqh hpost;clear hpost hrl;have hcase:(∃ o p,rl=.good o p)\/(rl=.bad\/rl=.opn):=by
    cases rl with
    | good o p => exact .inl ⟨o,p,rfl⟩
    | bad => exact .inr (.inl rfl)
    | opn => exact .inr (.inr rfl)
   rcases hcase with ⟨o,p,rfl⟩ | hbad
   ·obtain ⟨x,rfl,a3,n3,c3,nd3,rfl,hv3,hP3,hF3⟩:=HPost.out;have hdl:=HLN.out (by omega);have hpr:=hdl.2 _ _ HRL.out;have HS:Hid (docRun D p (acc++[x])=r):=(by show _=_;rw [<- HR2.out,hdl.1,HRL.out];rfl);have HV3:=qqh hv3;have HP3:Hid (PN D A C bp w4 _ nd3 (exNds 0 x) .nilIface 0):=hP3;have HF3:=qqh (HFr.out.trans hF3);have y2:=hP3.choose_spec.1.blk.cell 2 rfl;have y2f:=hP3.choose_spec.1.blk.free 2;clear hv3 hP3 hF3 HPost hdl;go_wp2_with fail
    go_ret;exact .inr (.inr ⟨rfl,x,p,_,_,_,_,by omega,hpr.2,HS.out,HV3.out,HP3.out.setLeft _,HF3.out.trans (Fr.self _),_,HRL.out⟩)
   ·have herr:ErrL D A C bp (.slice a1 n1 c1) .nilIface 0 wr e w4:=by
     rcases hbad with rfl | rfl
     ·exact HPost.out
     ·exact HPost.out
    obtain ⟨v,nd5,N5,xs5,rfl,hE,hPI,hKB5⟩:=herr;have HRB:Hid (r=.bad):=by
     show _=_;have h1:=(HLN.out (by omega)).1;rw [<- HR2.out,h1,HRL.out];rcases hbad with rfl | rfl
     ·rfl
     ·exfalso;apply HNO.out;rw [<- HR2.out,h1,HRL.out];rfl
    obtain ⟨h,rfl⟩:=Err.ptr hE;have HEP:Hid (EP D A C bp w w4 h):=EP.of hPI hE (hKB.out.trans hKB5);clear hE hPI hKB5 hbad;obtain ⟨l9,nd9,er9,n9,hB9⟩:=HEP.out.blk;obtain ⟨h',ea,en,ec,es,hh',hge,hec,hEB⟩:=HEP.out.err;injection hh' with _ hh';injection hh' with hh';injection hh' with hh';injection hh' with hh';subst hh';have y1:=hB9.cell 1 rfl;have y4:=hB9.cell 4 rfl;have yf:=hB9.free 4;have z0:=hEB.cell 0 rfl;have zf:=hEB.free 0;have HB9:=qqh hB9;have HEB:=qqh hEB;clear hB9 hEB;have hta:=fun w => run_ta h w
    rcases Nat.eq_zero_or_pos en with hen | hen
    ·obtain rfl:=hen;by_cases ho1:ec<C
     ·obtain ⟨m,hm⟩:∃ m,C - ec=m:=⟨_,rfl⟩;have hmi:(C:Int) - ec=(m:Int):=(by omega);have hm1:1<=m:=(by omega);have HMI:=qqh hmi;clear hm hmi;by_cases ho2:m=D.n
      ·subst ho2;obtain ⟨a9,hv9,hrun9⟩:=VW.sub (doc_data HEP.out.doc) hC1 (D.n - 1) D.n ((D.n:Int) - 1) (D.n:Int) (by omega) rfl (by omega) (qqr _);have y4':=(HB9.out.other (a:=⟨h,0,none⟩) (by show bp ≠ h;omega) (.slice a9 (D.n - (D.n - 1)) (C - (D.n - 1)))).cell 4 rfl;have yf':=(HB9.out.other (a:=⟨h,0,none⟩) (by show bp ≠ h;omega) (.slice a9 (D.n - (D.n - 1)) (C - (D.n - 1)))).free 4;clear hv9;go_wp2_with fail
       refine (offset2_c D A ea C 0 ec bp _ (by exact y1) hC2 hec).mono ?_;rintro e w8 ⟨rfl,hw8⟩;obtain rfl:=hw8.symm;rw [HMI.out];go_wp2_with fail
       go_ret;refine .inr (.inl ⟨rfl,HRB.out,⟨h,?_⟩,?_⟩)
       ·exact ((HB9.out.other (a:=⟨h,0,none⟩) (by show bp ≠ h;omega) _).put 4 _).cell 4 rfl
       ·exact Kp.setCell (Kp.setCell HEP.out.kb (.inl (by show bp<=h;omega)) _) (.inl (qqr bp)) _
      ·have eo2:((m:Int) == (D.n:Int))=false:=qqn (by omega);go_wp2_with fail
       refine (offset2_c D A ea C 0 ec bp _ (by exact y1) hC2 hec).mono ?_;rintro e w8 ⟨rfl,hw8⟩;obtain rfl:=hw8.symm;rw [HMI.out];go_wp2_with fail
       go_ret;refine .inr (.inl ⟨rfl,HRB.out,⟨h,?_⟩,?_⟩)
       ·exact (HB9.out.put 4 _).cell 4 rfl
       ·exact Kp.setCell HEP.out.kb (.inl (qqr bp)) _
     ·go_wp2_with fail
      refine (offset2_c D A ea C 0 ec bp _ (by exact y1) hC2 hec).mono ?_;rintro e w8 ⟨rfl,hw8⟩;obtain rfl:=hw8.symm;go_wp2_with fail
      go_ret;refine .inr (.inl ⟨rfl,HRB.out,⟨h,?_⟩,?_⟩)
      ·exact (HB9.out.put 4 _).cell 4 rfl
      ·exact Kp.setCell HEP.out.kb (.inl (qqr bp)) _
    ·go_wp2_with fail
     go_ret;refine .inr (.inl ⟨rfl,HRB.out,⟨h,?_⟩,?_⟩)
     ·exact (HB9.out.put 4 _).cell 4 rfl
     ·exact Kp.setCell HEP.out.kb (.inl (qqr bp)) _
  have e91:((D.c (j1):Int) == 91)=false:=qqn (by omega);have hcond:Hid (j1<D.n/\D.c j1 ≠ 35/\D.c j1 ≠ 10/\D.c j1 ≠ 13):=⟨by omega,h35,h10,h13⟩;have H91:=qqh h91;clear h91 h10 h13 h35;go_wp2_with fail
  refine (ekv_c D A _ C bp j1 n2 c2 _ _ (.slice na 0 nc) .nilIface [] 0 (by exact hP2.out) (by simp;omega) HV2.out (by omega) hcond.out H91.out hws.out hlno.out).mono ?_;intro e w4 hpost;obtain ⟨rl,hrl⟩:∃ rl,lnP D j1=rl:=⟨_,rfl⟩;rw [hrl] at hpost;have HRL:=qqh hrl;have HPost:=qqh hpost;clear hpost hrl;have hcase:(∃ o p,rl=.good o p)\/(rl=.bad\/rl=.opn):=by
   cases rl with
   | good o p => exact .inl ⟨o,p,rfl⟩
   | bad => exact .inr (.inl rfl)
   | opn => exact .inr (.inr rfl)
  rcases hcase with ⟨o,p,rfl⟩ | hbad
  ·obtain ⟨x,rfl,a3,n3,c3,nd3,rfl,hv3,hP3,hF3⟩:=HPost.out;have hdl:=HLN.out (by omega);have hpr:=hdl.2 _ _ HRL.out;have HS:Hid (docRun D p (acc++[x])=r):=(by show _=_;rw [<- HR2.out,hdl.1,HRL.out];rfl);have HV3:=qqh hv3;have HP3:Hid (PN D A C bp w4 _ nd3 (exNds 0 x) .nilIface 0):=hP3;have HF3:=qqh (HFr.out.trans hF3);have y2:=hP3.choose_spec.1.blk.cell 2 rfl;have y2f:=hP3.choose_spec.1.blk.free 2;clear hv3 hP3 hF3 HPost hdl;go_wp2_with fail
   go_ret;exact .inr (.inr ⟨rfl,x,p,_,_,_,_,by omega,hpr.2,HS.out,HV3.out,HP3.out.setLeft _,HF3.out.trans (Fr.self _),_,HRL.out⟩)
  ·have herr:ErrL D A C bp (.slice a1 n1 c1) .nilIface 0 wr e w4:=by
    rcases hbad with rfl | rfl
    ·exact HPost.out
    ·exact HPost.out
   obtain ⟨v,nd5,N5,xs5,rfl,hE,hPI,hKB5⟩:=herr;have HRB:Hid (r=.bad):=by
    show _=_;have h1:=(HLN.out (by omega)).1;rw [<- HR2.out,h1,HRL.out];rcases hbad with rfl | rfl
    ·rfl
    ·exfalso;apply HNO.out;rw [<- HR2.out,h1,HRL.out];rfl
   obtain ⟨h,rfl⟩:=Err.ptr hE;have HEP:Hid (EP D A C bp w w4 h):=EP.of hPI hE (hKB.out.trans hKB5);clear hE hPI hKB5 hbad;obtain ⟨l9,nd9,er9,n9,hB9⟩:=HEP.out.blk;obtain ⟨h',ea,en,ec,es,hh',hge,hec,hEB⟩:=HEP.out.err;injection hh' with _ hh';injection hh' with hh';injection hh' with hh';injection hh' with hh';subst hh';have y1:=hB9.cell 1 rfl;have y4:=hB9.cell 4 rfl;have yf:=hB9.free 4;have z0:=hEB.cell 0 rfl;have zf:=hEB.free 0;have HB9:=qqh hB9;have HEB:=qqh hEB;clear hB9 hEB;have hta:=fun w => run_ta h w
   rcases Nat.eq_zero_or_pos en with hen | hen
   ·obtain rfl:=hen;by_cases ho1:ec<C
    ·obtain ⟨m,hm⟩:∃ m,C - ec=m:=⟨_,rfl⟩;have hmi:(C:Int) - ec=(m:Int):=(by omega);have hm1:1<=m:=(by omega);have HMI:=qqh hmi;clear hm hmi;by_cases ho2:m=D.n
     ·subst ho2;obtain ⟨a9,hv9,hrun9⟩:=VW.sub (doc_data HEP.out.doc) hC1 (D.n - 1) D.n ((D.n:Int) - 1) (D.n:Int) (by omega) rfl (by omega) (qqr _);have y4':=(HB9.out.other (a:=⟨h,0,none⟩) (by show bp ≠ h;omega) (.slice a9 (D.n - (D.n - 1)) (C - (D.n - 1)))).cell 4 rfl;have yf':=(HB9.out.other (a:=⟨h,0,none⟩) (by show bp ≠ h;omega) (.slice a9 (D.n - (D.n - 1)) (C - (D.n - 1)))).free 4;clear hv9;go_wp2_with fail
      refine (offset2_c D A ea C 0 ec bp _ (by exact y1) hC2 hec).mono ?_;rintro e w8 ⟨rfl,hw8⟩;obtain rfl:=hw8.symm;rw [HMI.out];go_wp2_with fail
      go_ret;refine .inr (.inl ⟨rfl,HRB.out,⟨h,?_⟩,?_⟩)
      ·exact ((HB9.out.other (a:=⟨h,0,none⟩) (by show bp ≠ h;omega) _).put 4 _).cell 4 rfl
      ·exact Kp.setCell (Kp.setCell HEP.out.kb (.inl (by show bp<=h;omega)) _) (.inl (qqr bp)) _
     ·have eo2:((m:Int) == (D.n:Int))=false:=qqn (by omega);go_wp2_with fail
      refine (offset2_c D A ea C 0 ec bp _ (by exact y1) hC2 hec).mono ?_;rintro e w8 ⟨rfl,hw8⟩;obtain rfl:=hw8.symm;rw [HMI.out];go_wp2_with fail
      go_ret;refine .inr (.inl ⟨rfl,HRB.out,⟨h,?_⟩,?_⟩)
      ·exact (HB9.out.put 4 _).cell 4 rfl
      ·exact Kp.setCell HEP.out.kb (.inl (qqr bp)) _
    ·go_wp2_with fail
     refine (offset2_c D A ea C 0 ec bp _ (by exact y1) hC2 hec).mono ?_;rintro e w8 ⟨rfl,hw8⟩;obtain rfl:=hw8.symm;go_wp2_with fail
     go_ret;refine .inr (.inl ⟨rfl,HRB.out,⟨h,?_⟩,?_⟩)
     ·exact (HB9.out.put 4 _).cell 4 rfl
     ·exact Kp.setCell HEP.out.kb (.inl (qqr bp)) _
   ·go_wp2_with fail
    go_ret;refine .inr (.inl ⟨rfl,HRB.out,⟨h,?_⟩,?_⟩)
    ·exact (HB9.out.put 4 _).cell 4 rfl
    ·exact Kp.setCell HEP.out.kb (.inl (qqr bp)) _
end Go.Proofs.YtpgmddjgcgpoeaaGreat
