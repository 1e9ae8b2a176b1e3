/-
  A part of the proof.
-/
import Derived.Test.YtpgmddjgcgpoeaaGreatD31
set_option linter.unusedVariables false
set_option linter.unusedSimpArgs false
set_option maxRecDepth 100000
set_option maxHeartbeats 8000000
namespace Go.Proofs.YtpgmddjgcgpoeaaGreat
open Go.RowKit
theorem scN_err (D:Doc) (A a:Option Addr) (C k n c s:Nat) (w:World) (hd:DocAt D A C w) (hv:VW D A C k a n c) (hk:k<D.n) (hs:sgnN D k=s) (hnr:k+s<D.n->D.c (k+s) ≠ 105/\D.c (k+s) ≠ 110/\¬ dval (D.c (k+s))<10) :
  Calls Tryz.prog 110 #[.slice a n c] w (ScPost D A C k a c w (R.bad)):=by
 have hsm:=D.small;have hC1:=hd.1;have hC2:=hd.2.1;have hln:=qql hv.len;have hln':=qql hv.len.symm;have hcp:=qql hv.cap;have hcp':=qql hv.cap.symm;have hs2:s<=1:=by rw [<- hs];unfold sgnN;split <;> omega
 obtain ⟨bd,q,rfl,hb⟩:=hv.bytes hd hk;obtain ⟨r,hr⟩:∃ r,(R.bad)=r:=⟨_,rfl⟩;rw [hr];have HB:=qqh hb;have HD:=qqh hd;have HV:=qqh hv;have HR:=qqh hr;have HS:=qqh hs;have b0:=hb 0 (by omega);simp only [Nat.add_zero] at b0;clear hb hd hv hr hs;go_enter Tryz.func110,Tryz.ntmps110;have HNR:=qqh hnr;go_upto_region 2 with fail;refine wp_cut (fun a' wx => ∃ (z8 z11 z12 z14 x27 z132 z207 z224 z272 z292 z344:Value) (F:Nat->Value),a'=mk110 (.slice (some ⟨bd,q,none⟩) n c) (.int .i64 0) z8 z11 z12 z14 x27 z132 z207 z224 z272 z292 z344 F/\x27=.bool (decide (s=1))/\w=wx) ?rest1 ?first1
 case first1 =>
  intro _ _ _ _;by_cases h43:D.c k=43
  ·have e43:((D.c (k):Int) == 43)=true:=(by rw [beq_iff_eq];omega);have h1:s=1:=(by rw [<- HS.out];unfold sgnN;rw [if_pos (.inl h43)]);go_wp2_with fail
   refine Met.intro ?_
   go_step
   exact ⟨_,_,_,_,_,_,_,_,_,_,_,_,mk110_of _ rfl,(congrArg Value.bool (by first | rfl | (symm;rw [decide_eq_true_iff];omega) | (symm;rw [decide_eq_false_iff_not];omega) | (rw [Bool.eq_iff_iff];simp;omega))),rfl⟩
  ·have e43:((D.c (k):Int) == 43)=false:=qqn (by omega);by_cases h45:D.c k=45
   ·have e45:((D.c (k):Int) == 45)=true:=(by rw [beq_iff_eq];omega);have h1:s=1:=(by rw [<- HS.out];unfold sgnN;rw [if_pos (.inr h45)]);go_wp2_with fail
    refine Met.intro ?_
    go_step
    exact ⟨_,_,_,_,_,_,_,_,_,_,_,_,mk110_of _ rfl,(congrArg Value.bool (by first | rfl | (symm;rw [decide_eq_true_iff];omega) | (symm;rw [decide_eq_false_iff_not];omega) | (rw [Bool.eq_iff_iff];simp;omega))),rfl⟩
   ·have e45:((D.c (k):Int) == 45)=false:=qqn (by omega);have h1:s=0:=(by rw [<- HS.out];unfold sgnN;rw [if_neg (by omega)]);go_wp2_with fail
    refine Met.intro ?_
    go_step
    exact ⟨_,_,_,_,_,_,_,_,_,_,_,_,mk110_of _ rfl,(congrArg Value.bool (by first | rfl | (symm;rw [decide_eq_true_iff];omega) | (symm;rw [decide_eq_false_iff_not];omega) | (rw [Bool.eq_iff_iff];simp;omega))),rfl⟩
 case rest1 =>
  rintro _ wc ⟨z8,z11,z12,z14,x27,z132,z207,z224,z272,z292,z344,F,rfl,h27,rfl⟩;dsimp only [mk110];go_upto_if 27 with fail;refine wp_cut (fun a' wx => ∃ (x7 z8 z11 z12 z14 z27 z132 z207 z224 z272 z292 z344:Value) (F:Nat->Value),a'=mk110 (.slice (some ⟨bd,q,none⟩) n c) x7 z8 z11 z12 z14 z27 z132 z207 z224 z272 z292 z344 F/\x7=.int .i64 (s:Nat)/\w=wx) ?rest2 ?first2
  case first2 =>
   intro _ _ _ _;by_cases hP:s=1
   ·rw [qqt hP] at h27;subst h27;go_wp2_with fail
    refine Met.intro ?_
    go_step
    exact ⟨_,_,_,_,_,_,_,_,_,_,_,_,_,mk110_of _ rfl,by subst hP;go_num,rfl⟩
   ·rw [qqf hP] at h27;subst h27;go_wp2_with fail
    refine Met.intro ?_
    go_step
    exact ⟨_,_,_,_,_,_,_,_,_,_,_,_,_,mk110_of _ rfl,by rw [show s=0 by omega];rfl,rfl⟩
  case rest2 =>
   rintro _ wc ⟨x7,z8,z11,z12,z14,z27,z132,z207,z224,z272,z292,z344,F,rfl,rfl,rfl⟩;dsimp only [mk110];rcases qqg s n with hsn | hsn
   ·have bs:=HB.out s (by omega);obtain ⟨h1,h2,h3⟩:=HNR.out (by omega);have HDG:=qqh (qqf h3);have e105:((D.c (k+s):Int) == 105)=false:=qqn (by omega);have e110:((D.c (k+s):Int) == 110)=false:=qqn (by omega);obtain ⟨asl,hvs,hrun⟩:=VW.sub HV.out hC1 s (s+1) s ((s:Int)+1) rfl (by omega) (by omega) (by omega);clear h1 h2 h3 hvs;go_wp2_with fail
    refine (dig111_c (D.c (k+s)) _).mono ?_;rintro e w1 ⟨rfl,hw⟩;obtain rfl:=hw.symm;rw [HDG.out];go_wp2_with fail
    refine (newErr_c _ _ _ _ _ (by omega)).mono ?_;rintro e w1 ⟨⟨v,rfl,hE⟩,hk1⟩;go_wp2_with fail
    refine bodyPost_ret (results_tmp5 rfl _ _ _) rfl ?_;obtain rfl:R.bad=r:=HR.out;exact ⟨⟨_,rfl,hE⟩,hk1⟩
   ·go_wp2_with fail
    refine (newErr_c _ _ _ _ _ (by omega)).mono ?_;rintro e w1 ⟨⟨v,rfl,hE⟩,hk1⟩;go_wp2_with fail
    refine bodyPost_ret (results_tmp5 rfl _ _ _) rfl ?_;obtain rfl:R.bad=r:=HR.out;exact ⟨⟨_,rfl,hE⟩,hk1⟩
theorem scN_rad16 (D:Doc) (A a:Option Addr) (C k n c s:Nat) (w:World) (hd:DocAt D A C w) (hv:VW D A C k a n c) (hk:k<D.n) (hs:sgnN D k=s) (h48:D.c (k+s)=48) (hxl:D.c (k+(s+1))=120) :
  Calls Tryz.prog 110 #[.slice a n c] w (ScPost D A C k a c w (if s ≠ 0 then R.bad else scBase D k 16)):=by
 have hsm:=D.small;have hC1:=hd.1;have hC2:=hd.2.1;have hln:=qql hv.len;have hln':=qql hv.len.symm;have hcp:=qql hv.cap;have hcp':=qql hv.cap.symm;have hs2:s<=1:=by rw [<- hs];unfold sgnN;split <;> omega
 obtain ⟨bd,q,rfl,hb⟩:=hv.bytes hd hk;obtain ⟨r,hr⟩:∃ r,(if s ≠ 0 then R.bad else scBase D k 16)=r:=⟨_,rfl⟩;rw [hr];have HB:=qqh hb;have HD:=qqh hd;have HV:=qqh hv;have HR:=qqh hr;have HS:=qqh hs;have b0:=hb 0 (by omega);simp only [Nat.add_zero] at b0;clear hb hd hv hr hs;go_enter Tryz.func110,Tryz.ntmps110;have hin1:=Doc.in_of (D:=D) (k:=k+(s+1)) (by omega);have bs:=HB.out s (by omega);have b1:=HB.out (s+1) (by omega);have HDG:Hid (decide (dval (D.c (k+s))<10)=true):=by show _=_;rw [h48];rfl
 have e105:((D.c (k+s):Int) == 105)=false:=qqn (by omega);have e110:((D.c (k+s):Int) == 110)=false:=qqn (by omega);have e48:((D.c (k+s):Int) == 48)=true:=by rw [beq_iff_eq];omega
 have e120:((D.c (k+(s+1)):Int) == 120)=true:=by rw [beq_iff_eq];omega
 have e111:((D.c (k+(s+1)):Int) == 111)=false:=qqn (by omega);have e98:((D.c (k+(s+1)):Int) == 98)=false:=qqn (by omega);clear hxl h48;go_upto_region 2 with fail;refine wp_cut (fun a' wx => ∃ (z8 z11 z12 z14 x27 z132 z207 z224 z272 z292 z344:Value) (F:Nat->Value),a'=mk110 (.slice (some ⟨bd,q,none⟩) n c) (.int .i64 0) z8 z11 z12 z14 x27 z132 z207 z224 z272 z292 z344 F/\x27=.bool (decide (s=1))/\w=wx) ?rest1 ?first1
 case first1 =>
  intro _ _ _ _;by_cases h43:D.c k=43
  ·have e43:((D.c (k):Int) == 43)=true:=(by rw [beq_iff_eq];omega);have h1:s=1:=(by rw [<- HS.out];unfold sgnN;rw [if_pos (.inl h43)]);go_wp2_with fail
   refine Met.intro ?_
   go_step
   exact ⟨_,_,_,_,_,_,_,_,_,_,_,_,mk110_of _ rfl,(congrArg Value.bool (by first | rfl | (symm;rw [decide_eq_true_iff];omega) | (symm;rw [decide_eq_false_iff_not];omega) | (rw [Bool.eq_iff_iff];simp;omega))),rfl⟩
  ·have e43:((D.c (k):Int) == 43)=false:=qqn (by omega);by_cases h45:D.c k=45
   ·have e45:((D.c (k):Int) == 45)=true:=(by rw [beq_iff_eq];omega);have h1:s=1:=(by rw [<- HS.out];unfold sgnN;rw [if_pos (.inr h45)]);go_wp2_with fail
    refine Met.intro ?_
    go_step
    exact ⟨_,_,_,_,_,_,_,_,_,_,_,_,mk110_of _ rfl,(congrArg Value.bool (by first | rfl | (symm;rw [decide_eq_true_iff];omega) | (symm;rw [decide_eq_false_iff_not];omega) | (rw [Bool.eq_iff_iff];simp;omega))),rfl⟩
   ·have e45:((D.c (k):Int) == 45)=false:=qqn (by omega);have h1:s=0:=(by rw [<- HS.out];unfold sgnN;rw [if_neg (by omega)]);go_wp2_with fail
    refine Met.intro ?_
    go_step
    exact ⟨_,_,_,_,_,_,_,_,_,_,_,_,mk110_of _ rfl,(congrArg Value.bool (by first | rfl | (symm;rw [decide_eq_true_iff];omega) | (symm;rw [decide_eq_false_iff_not];omega) | (rw [Bool.eq_iff_iff];simp;omega))),rfl⟩
 case rest1 =>
  rintro _ wc ⟨z8,z11,z12,z14,x27,z132,z207,z224,z272,z292,z344,F,rfl,h27,rfl⟩;dsimp only [mk110];go_upto_if 27 with fail;refine wp_cut (fun a' wx => ∃ (x7 z8 z11 z12 z14 z27 z132 z207 z224 z272 z292 z344:Value) (F:Nat->Value),a'=mk110 (.slice (some ⟨bd,q,none⟩) n c) x7 z8 z11 z12 z14 z27 z132 z207 z224 z272 z292 z344 F/\x7=.int .i64 (s:Nat)/\w=wx) ?rest2 ?first2
  case first2 =>
   intro _ _ _ _;by_cases hP:s=1
   ·rw [qqt hP] at h27;subst h27;go_wp2_with fail
    refine Met.intro ?_
    go_step
    exact ⟨_,_,_,_,_,_,_,_,_,_,_,_,_,mk110_of _ rfl,by subst hP;go_num,rfl⟩
   ·rw [qqf hP] at h27;subst h27;go_wp2_with fail
    refine Met.intro ?_
    go_step
    exact ⟨_,_,_,_,_,_,_,_,_,_,_,_,_,mk110_of _ rfl,by rw [show s=0 by omega];rfl,rfl⟩
  case rest2 =>
   rintro _ wc ⟨x7,z8,z11,z12,z14,z27,z132,z207,z224,z272,z292,z344,F,rfl,rfl,rfl⟩;dsimp only [mk110];go_wp2_with fail
   refine (dig111_c (D.c (k+s)) _).mono ?_;rintro e w1 ⟨rfl,hw⟩;obtain rfl:=hw.symm;rw [HDG.out];by_cases hs0:s=0
   ·subst hs0;simp only [Nat.add_zero,Nat.zero_add] at bs b1 e105 e110 e48 e120 e111 e98;have bx:=HB.out 1 (by omega);have ex:((D.c (k+1):Int) == 120)=true:=e120;have ex111:((D.c (k+1):Int) == 111)=false:=e111;have ex98:((D.c (k+1):Int) == 98)=false:=e98;rcases qqg 2 n with hl2 | hl2
    ·have b2:=HB.out 2 (by omega);by_cases hd3:dval (D.c (k+2))<16
     ·have HD3:=qqh (qqt hd3);have HR9:Hid (sdThen (sdRun D 16 (k+(2+1))) (fun p => .good 11 p)=r):=(by show _=_;rw [<- HR.out,if_neg (by simp)];unfold scBase;rw [if_pos hd3]);clear hd3;go_wp2_with fail
      refine (dig117_c (D.c (k+2)) _).mono ?_;rintro e w1 ⟨rfl,hw⟩;obtain rfl:=hw.symm;rw [HD3.out];go_wp2_with fail
      refine (sdx16_c D _ _ C k n c (2+1) _ (by omega) _ (by exact HD.out) HV.out (by omega)).mono ?_;intro e w1 hpost;obtain ⟨r3,hr3⟩:∃ r1,sdRun D 16 (k+(2+1))=r1:=⟨_,rfl⟩;rw [hr3] at hpost;have HR3:=qqh hr3;clear hr3;have HPost:=qqh hpost;clear hpost;have herr:Hid ((r3=.bad\/r3=.opn)->(∃ v,e=.returned (.tuple #[.int .i64 0,v])/\Err w1 w.heap.size v)/\Kp Nil w w1):=by
       rintro (rfl | rfl)
       ·exact HPost.out
       ·exact HPost.out
      rcases sd_cases r3 with ⟨p3,rfl⟩ | hbad
      ·obtain ⟨rfl,hw⟩:=HPost.out;obtain rfl:=hw.symm;have hin3:=sd_in D 16 (by omega) _ _ _ rfl HR3.out;obtain ⟨j3,rfl⟩:∃ j,p3=k+j:=⟨p3 - k,by omega⟩;rw [Nat.add_sub_cancel_left];have hj31:2+1<=j3:=(by omega);have hj32:j3<=n:=(by have:=hin3.2 (by omega);omega);clear hin3 herr HPost;obtain rfl:R.good 11 (k+j3)=r:=(by rw [<- HR9.out,HR3.out,sdThen_good]);have hrunt:=upto_ (some ⟨bd,q,none⟩) n c (j3) (j3:Nat) rfl (by omega);obtain ⟨af,hvf,hrunf⟩:=VW.from_ HV.out hC1 (j3) ((j3:Nat):Int) rfl (by omega)
       skip
       have HVF:=qqh hvf;clear hvf;go_wp2_with fail
       go_quiet (fail)
       go_wp2_with fail
       refine bodyPost_ret (results_tmp5 rfl _ _ _) rfl ?_;refine ⟨(Kp.refl _ _).drewN _,_,_,_,?_,HVF.out⟩;rw [Nat.add_sub_cancel_left];rfl
      ·have HBad:=qqh hbad;obtain ⟨⟨v,rfl,hE⟩,hk1⟩:=herr.out hbad;obtain ⟨bb,rfl⟩:=Err.ptr hE;have HE:=qqh hE;clear hE hbad herr;go_wp2_with fail
       refine bodyPost_ret (results_tmp5 rfl _ _ _) rfl ?_;obtain rfl:R.bad=r:=(by rw [<- HR9.out];rcases HBad.out with h | h <;> (rw [HR3.out,h];rfl));exact ⟨⟨_,rfl,HE.out⟩,hk1⟩
     ·have HD3:=qqh (qqf hd3);have hrun:=upto_ (some ⟨bd,q,none⟩) n c 2 2 rfl (by omega);have HBD:Hid (R.bad=r):=(by show _=_;rw [<- HR.out,if_neg (by simp)];unfold scBase;rw [if_neg hd3]);clear hd3;go_wp2_with fail
      refine (dig117_c (D.c (k+2)) _).mono ?_;rintro e w1 ⟨rfl,hw⟩;obtain rfl:=hw.symm;rw [HD3.out];go_wp2_with fail
      refine (newErr_c _ _ _ _ _ (by omega)).mono ?_;rintro e w1 ⟨⟨v,rfl,hE⟩,hk1⟩;go_wp2_with fail
      refine bodyPost_ret (results_tmp5 rfl _ _ _) rfl ?_;obtain rfl:R.bad=r:=HBD.out;exact ⟨⟨_,rfl,hE⟩,hk1⟩
    ·have h0:=D.out (k+2) (by omega);have hrun:=upto_ (some ⟨bd,q,none⟩) n c 2 2 rfl (by omega);have HBD:Hid (R.bad=r):=(by show _=_;rw [<- HR.out,if_neg (by simp)];unfold scBase;rw [if_neg (by rw [h0,dval_0];omega)]);go_wp2_with fail
     refine (newErr_c _ _ _ _ _ (by omega)).mono ?_;rintro e w1 ⟨⟨v,rfl,hE⟩,hk1⟩;go_wp2_with fail
     refine bodyPost_ret (results_tmp5 rfl _ _ _) rfl ?_;obtain rfl:R.bad=r:=HBD.out;exact ⟨⟨_,rfl,hE⟩,hk1⟩
   ·have es0:((s:Int) != 0)=true:=(by rw [bne_iff_ne];omega);have hrun:=upto_ (some ⟨bd,q,none⟩) n c 2 2 rfl (by omega);have HBD:Hid (R.bad=r):=(by show _=_;rw [<- HR.out,if_pos hs0]);go_wp2_with fail
    refine (newErr_c _ _ _ _ _ (by omega)).mono ?_;rintro e w1 ⟨⟨v,rfl,hE⟩,hk1⟩;go_wp2_with fail
    refine bodyPost_ret (results_tmp5 rfl _ _ _) rfl ?_;obtain rfl:R.bad=r:=HBD.out;exact ⟨⟨_,rfl,hE⟩,hk1⟩
theorem scN_rad8 (D:Doc) (A a:Option Addr) (C k n c s:Nat) (w:World) (hd:DocAt D A C w) (hv:VW D A C k a n c) (hk:k<D.n) (hs:sgnN D k=s) (h48:D.c (k+s)=48) (hxl:D.c (k+(s+1))=111) :
  Calls Tryz.prog 110 #[.slice a n c] w (ScPost D A C k a c w (if s ≠ 0 then R.bad else scBase D k 8)):=by
 have hsm:=D.small;have hC1:=hd.1;have hC2:=hd.2.1;have hln:=qql hv.len;have hln':=qql hv.len.symm;have hcp:=qql hv.cap;have hcp':=qql hv.cap.symm;have hs2:s<=1:=by rw [<- hs];unfold sgnN;split <;> omega
 obtain ⟨bd,q,rfl,hb⟩:=hv.bytes hd hk;obtain ⟨r,hr⟩:∃ r,(if s ≠ 0 then R.bad else scBase D k 8)=r:=⟨_,rfl⟩;rw [hr];have HB:=qqh hb;have HD:=qqh hd;have HV:=qqh hv;have HR:=qqh hr;have HS:=qqh hs;have b0:=hb 0 (by omega);simp only [Nat.add_zero] at b0;clear hb hd hv hr hs;go_enter Tryz.func110,Tryz.ntmps110;have hin1:=Doc.in_of (D:=D) (k:=k+(s+1)) (by omega);have bs:=HB.out s (by omega);have b1:=HB.out (s+1) (by omega);have HDG:Hid (decide (dval (D.c (k+s))<10)=true):=by show _=_;rw [h48];rfl
 have e105:((D.c (k+s):Int) == 105)=false:=qqn (by omega);have e110:((D.c (k+s):Int) == 110)=false:=qqn (by omega);have e48:((D.c (k+s):Int) == 48)=true:=by rw [beq_iff_eq];omega
 have e120:((D.c (k+(s+1)):Int) == 120)=false:=qqn (by omega);have e111:((D.c (k+(s+1)):Int) == 111)=true:=by rw [beq_iff_eq];omega
 have e98:((D.c (k+(s+1)):Int) == 98)=false:=qqn (by omega);clear hxl h48;go_upto_region 2 with fail;refine wp_cut (fun a' wx => ∃ (z8 z11 z12 z14 x27 z132 z207 z224 z272 z292 z344:Value) (F:Nat->Value),a'=mk110 (.slice (some ⟨bd,q,none⟩) n c) (.int .i64 0) z8 z11 z12 z14 x27 z132 z207 z224 z272 z292 z344 F/\x27=.bool (decide (s=1))/\w=wx) ?rest1 ?first1
 case first1 =>
  intro _ _ _ _;by_cases h43:D.c k=43
  ·have e43:((D.c (k):Int) == 43)=true:=(by rw [beq_iff_eq];omega);have h1:s=1:=(by rw [<- HS.out];unfold sgnN;rw [if_pos (.inl h43)]);go_wp2_with fail
   refine Met.intro ?_
   go_step
   exact ⟨_,_,_,_,_,_,_,_,_,_,_,_,mk110_of _ rfl,(congrArg Value.bool (by first | rfl | (symm;rw [decide_eq_true_iff];omega) | (symm;rw [decide_eq_false_iff_not];omega) | (rw [Bool.eq_iff_iff];simp;omega))),rfl⟩
  ·have e43:((D.c (k):Int) == 43)=false:=qqn (by omega);by_cases h45:D.c k=45
   ·have e45:((D.c (k):Int) == 45)=true:=(by rw [beq_iff_eq];omega);have h1:s=1:=(by rw [<- HS.out];unfold sgnN;rw [if_pos (.inr h45)]);go_wp2_with fail
    refine Met.intro ?_
    go_step
    exact ⟨_,_,_,_,_,_,_,_,_,_,_,_,mk110_of _ rfl,(congrArg Value.bool (by first | rfl | (symm;rw [decide_eq_true_iff];omega) | (symm;rw [decide_eq_false_iff_not];omega) | (rw [Bool.eq_iff_iff];simp;omega))),rfl⟩
   ·have e45:((D.c (k):Int) == 45)=false:=qqn (by omega);have h1:s=0:=(by rw [<- HS.out];unfold sgnN;rw [if_neg (by omega)]);go_wp2_with fail
    refine Met.intro ?_
    go_step
    exact ⟨_,_,_,_,_,_,_,_,_,_,_,_,mk110_of _ rfl,(congrArg Value.bool (by first | rfl | (symm;rw [decide_eq_true_iff];omega) | (symm;rw [decide_eq_false_iff_not];omega) | (rw [Bool.eq_iff_iff];simp;omega))),rfl⟩
 case rest1 =>
  rintro _ wc ⟨z8,z11,z12,z14,x27,z132,z207,z224,z272,z292,z344,F,rfl,h27,rfl⟩;dsimp only [mk110];go_upto_if 27 with fail;refine wp_cut (fun a' wx => ∃ (x7 z8 z11 z12 z14 z27 z132 z207 z224 z272 z292 z344:Value) (F:Nat->Value),a'=mk110 (.slice (some ⟨bd,q,none⟩) n c) x7 z8 z11 z12 z14 z27 z132 z207 z224 z272 z292 z344 F/\x7=.int .i64 (s:Nat)/\w=wx) ?rest2 ?first2
  case first2 =>
   intro _ _ _ _;by_cases hP:s=1
   ·rw [qqt hP] at h27;subst h27;go_wp2_with fail
    refine Met.intro ?_
    go_step
    exact ⟨_,_,_,_,_,_,_,_,_,_,_,_,_,mk110_of _ rfl,by subst hP;go_num,rfl⟩
   ·rw [qqf hP] at h27;subst h27;go_wp2_with fail
    refine Met.intro ?_
    go_step
    exact ⟨_,_,_,_,_,_,_,_,_,_,_,_,_,mk110_of _ rfl,by rw [show s=0 by omega];rfl,rfl⟩
  case rest2 =>
   rintro _ wc ⟨x7,z8,z11,z12,z14,z27,z132,z207,z224,z272,z292,z344,F,rfl,rfl,rfl⟩;dsimp only [mk110];go_wp2_with fail
   refine (dig111_c (D.c (k+s)) _).mono ?_;rintro e w1 ⟨rfl,hw⟩;obtain rfl:=hw.symm;rw [HDG.out];by_cases hs0:s=0
   ·subst hs0;simp only [Nat.add_zero,Nat.zero_add] at bs b1 e105 e110 e48 e120 e111 e98;have bx:=HB.out 1 (by omega);have ex:((D.c (k+1):Int) == 111)=true:=e111;have ex120:((D.c (k+1):Int) == 120)=false:=e120;have ex98:((D.c (k+1):Int) == 98)=false:=e98;rcases qqg 2 n with hl2 | hl2
    ·have b2:=HB.out 2 (by omega);by_cases hd3:dval (D.c (k+2))<8
     ·have HD3:=qqh (qqt hd3);have HR9:Hid (sdThen (sdRun D 8 (k+(2+1))) (fun p => .good 11 p)=r):=(by show _=_;rw [<- HR.out,if_neg (by simp)];unfold scBase;rw [if_pos hd3]);clear hd3;go_wp2_with fail
      refine (dig118_c (D.c (k+2)) _).mono ?_;rintro e w1 ⟨rfl,hw⟩;obtain rfl:=hw.symm;rw [HD3.out];go_wp2_with fail
      refine (sdx8_c D _ _ C k n c (2+1) _ (by omega) _ (by exact HD.out) HV.out (by omega)).mono ?_;intro e w1 hpost;obtain ⟨r3,hr3⟩:∃ r1,sdRun D 8 (k+(2+1))=r1:=⟨_,rfl⟩;rw [hr3] at hpost;have HR3:=qqh hr3;clear hr3;have HPost:=qqh hpost;clear hpost;have herr:Hid ((r3=.bad\/r3=.opn)->(∃ v,e=.returned (.tuple #[.int .i64 0,v])/\Err w1 w.heap.size v)/\Kp Nil w w1):=by
       rintro (rfl | rfl)
       ·exact HPost.out
       ·exact HPost.out
      rcases sd_cases r3 with ⟨p3,rfl⟩ | hbad
      ·obtain ⟨rfl,hw⟩:=HPost.out;obtain rfl:=hw.symm;have hin3:=sd_in D 8 (by omega) _ _ _ rfl HR3.out;obtain ⟨j3,rfl⟩:∃ j,p3=k+j:=⟨p3 - k,by omega⟩;rw [Nat.add_sub_cancel_left];have hj31:2+1<=j3:=(by omega);have hj32:j3<=n:=(by have:=hin3.2 (by omega);omega);clear hin3 herr HPost;obtain rfl:R.good 11 (k+j3)=r:=(by rw [<- HR9.out,HR3.out,sdThen_good]);have hrunt:=upto_ (some ⟨bd,q,none⟩) n c (j3) (j3:Nat) rfl (by omega);obtain ⟨af,hvf,hrunf⟩:=VW.from_ HV.out hC1 (j3) ((j3:Nat):Int) rfl (by omega)
       skip
       have HVF:=qqh hvf;clear hvf;go_wp2_with fail
       go_quiet (fail)
       go_wp2_with fail
       refine bodyPost_ret (results_tmp5 rfl _ _ _) rfl ?_;refine ⟨(Kp.refl _ _).drewN _,_,_,_,?_,HVF.out⟩;rw [Nat.add_sub_cancel_left];rfl
      ·have HBad:=qqh hbad;obtain ⟨⟨v,rfl,hE⟩,hk1⟩:=herr.out hbad;obtain ⟨bb,rfl⟩:=Err.ptr hE;have HE:=qqh hE;clear hE hbad herr;go_wp2_with fail
       refine bodyPost_ret (results_tmp5 rfl _ _ _) rfl ?_;obtain rfl:R.bad=r:=(by rw [<- HR9.out];rcases HBad.out with h | h <;> (rw [HR3.out,h];rfl));exact ⟨⟨_,rfl,HE.out⟩,hk1⟩
     ·have HD3:=qqh (qqf hd3);have hrun:=upto_ (some ⟨bd,q,none⟩) n c 2 2 rfl (by omega);have HBD:Hid (R.bad=r):=(by show _=_;rw [<- HR.out,if_neg (by simp)];unfold scBase;rw [if_neg hd3]);clear hd3;go_wp2_with fail
      refine (dig118_c (D.c (k+2)) _).mono ?_;rintro e w1 ⟨rfl,hw⟩;obtain rfl:=hw.symm;rw [HD3.out];go_wp2_with fail
      refine (newErr_c _ _ _ _ _ (by omega)).mono ?_;rintro e w1 ⟨⟨v,rfl,hE⟩,hk1⟩;go_wp2_with fail
      refine bodyPost_ret (results_tmp5 rfl _ _ _) rfl ?_;obtain rfl:R.bad=r:=HBD.out;exact ⟨⟨_,rfl,hE⟩,hk1⟩
    ·have h0:=D.out (k+2) (by omega);have hrun:=upto_ (some ⟨bd,q,none⟩) n c 2 2 rfl (by omega);have HBD:Hid (R.bad=r):=(by show _=_;rw [<- HR.out,if_neg (by simp)];unfold scBase;rw [if_neg (by rw [h0,dval_0];omega)]);go_wp2_with fail
     refine (newErr_c _ _ _ _ _ (by omega)).mono ?_;rintro e w1 ⟨⟨v,rfl,hE⟩,hk1⟩;go_wp2_with fail
     refine bodyPost_ret (results_tmp5 rfl _ _ _) rfl ?_;obtain rfl:R.bad=r:=HBD.out;exact ⟨⟨_,rfl,hE⟩,hk1⟩
   ·have es0:((s:Int) != 0)=true:=(by rw [bne_iff_ne];omega);have hrun:=upto_ (some ⟨bd,q,none⟩) n c 2 2 rfl (by omega);have HBD:Hid (R.bad=r):=(by show _=_;rw [<- HR.out,if_pos hs0]);go_wp2_with fail
    refine (newErr_c _ _ _ _ _ (by omega)).mono ?_;rintro e w1 ⟨⟨v,rfl,hE⟩,hk1⟩;go_wp2_with fail
    refine bodyPost_ret (results_tmp5 rfl _ _ _) rfl ?_;obtain rfl:R.bad=r:=HBD.out;exact ⟨⟨_,rfl,hE⟩,hk1⟩
theorem scN_rad2 (D:Doc) (A a:Option Addr) (C k n c s:Nat) (w:World) (hd:DocAt D A C w) (hv:VW D A C k a n c) (hk:k<D.n) (hs:sgnN D k=s) (h48:D.c (k+s)=48) (hxl:D.c (k+(s+1))=98) :
  Calls Tryz.prog 110 #[.slice a n c] w (ScPost D A C k a c w (if s ≠ 0 then R.bad else scBase D k 2)):=by
 have hsm:=D.small;have hC1:=hd.1;have hC2:=hd.2.1;have hln:=qql hv.len;have hln':=qql hv.len.symm;have hcp:=qql hv.cap;have hcp':=qql hv.cap.symm;have hs2:s<=1:=by rw [<- hs];unfold sgnN;split <;> omega
 obtain ⟨bd,q,rfl,hb⟩:=hv.bytes hd hk;obtain ⟨r,hr⟩:∃ r,(if s ≠ 0 then R.bad else scBase D k 2)=r:=⟨_,rfl⟩;rw [hr];have HB:=qqh hb;have HD:=qqh hd;have HV:=qqh hv;have HR:=qqh hr;have HS:=qqh hs;have b0:=hb 0 (by omega);simp only [Nat.add_zero] at b0;clear hb hd hv hr hs;go_enter Tryz.func110,Tryz.ntmps110;have hin1:=Doc.in_of (D:=D) (k:=k+(s+1)) (by omega);have bs:=HB.out s (by omega);have b1:=HB.out (s+1) (by omega);have HDG:Hid (decide (dval (D.c (k+s))<10)=true):=by show _=_;rw [h48];rfl
 have e105:((D.c (k+s):Int) == 105)=false:=qqn (by omega);have e110:((D.c (k+s):Int) == 110)=false:=qqn (by omega);have e48:((D.c (k+s):Int) == 48)=true:=by rw [beq_iff_eq];omega
 have e120:((D.c (k+(s+1)):Int) == 120)=false:=qqn (by omega);have e111:((D.c (k+(s+1)):Int) == 111)=false:=qqn (by omega);have e98:((D.c (k+(s+1)):Int) == 98)=true:=by rw [beq_iff_eq];omega
 clear hxl h48;go_upto_region 2 with fail;refine wp_cut (fun a' wx => ∃ (z8 z11 z12 z14 x27 z132 z207 z224 z272 z292 z344:Value) (F:Nat->Value),a'=mk110 (.slice (some ⟨bd,q,none⟩) n c) (.int .i64 0) z8 z11 z12 z14 x27 z132 z207 z224 z272 z292 z344 F/\x27=.bool (decide (s=1))/\w=wx) ?rest1 ?first1
 case first1 =>
  intro _ _ _ _;by_cases h43:D.c k=43
  ·have e43:((D.c (k):Int) == 43)=true:=(by rw [beq_iff_eq];omega);have h1:s=1:=(by rw [<- HS.out];unfold sgnN;rw [if_pos (.inl h43)]);go_wp2_with fail
   refine Met.intro ?_
   go_step
   exact ⟨_,_,_,_,_,_,_,_,_,_,_,_,mk110_of _ rfl,(congrArg Value.bool (by first | rfl | (symm;rw [decide_eq_true_iff];omega) | (symm;rw [decide_eq_false_iff_not];omega) | (rw [Bool.eq_iff_iff];simp;omega))),rfl⟩
  ·have e43:((D.c (k):Int) == 43)=false:=qqn (by omega);by_cases h45:D.c k=45
   ·have e45:((D.c (k):Int) == 45)=true:=(by rw [beq_iff_eq];omega);have h1:s=1:=(by rw [<- HS.out];unfold sgnN;rw [if_pos (.inr h45)]);go_wp2_with fail
    refine Met.intro ?_
    go_step
    exact ⟨_,_,_,_,_,_,_,_,_,_,_,_,mk110_of _ rfl,(congrArg Value.bool (by first | rfl | (symm;rw [decide_eq_true_iff];omega) | (symm;rw [decide_eq_false_iff_not];omega) | (rw [Bool.eq_iff_iff];simp;omega))),rfl⟩
   ·have e45:((D.c (k):Int) == 45)=false:=qqn (by omega);have h1:s=0:=(by rw [<- HS.out];unfold sgnN;rw [if_neg (by omega)]);go_wp2_with fail
    refine Met.intro ?_
    go_step
    exact ⟨_,_,_,_,_,_,_,_,_,_,_,_,mk110_of _ rfl,(congrArg Value.bool (by first | rfl | (symm;rw [decide_eq_true_iff];omega) | (symm;rw [decide_eq_false_iff_not];omega) | (rw [Bool.eq_iff_iff];simp;omega))),rfl⟩
 case rest1 =>
  rintro _ wc ⟨z8,z11,z12,z14,x27,z132,z207,z224,z272,z292,z344,F,rfl,h27,rfl⟩;dsimp only [mk110];go_upto_if 27 with fail;refine wp_cut (fun a' wx => ∃ (x7 z8 z11 z12 z14 z27 z132 z207 z224 z272 z292 z344:Value) (F:Nat->Value),a'=mk110 (.slice (some ⟨bd,q,none⟩) n c) x7 z8 z11 z12 z14 z27 z132 z207 z224 z272 z292 z344 F/\x7=.int .i64 (s:Nat)/\w=wx) ?rest2 ?first2
  case first2 =>
   intro _ _ _ _;by_cases hP:s=1
   ·rw [qqt hP] at h27;subst h27;go_wp2_with fail
    refine Met.intro ?_
    go_step
    exact ⟨_,_,_,_,_,_,_,_,_,_,_,_,_,mk110_of _ rfl,by subst hP;go_num,rfl⟩
   ·rw [qqf hP] at h27;subst h27;go_wp2_with fail
    refine Met.intro ?_
    go_step
    exact ⟨_,_,_,_,_,_,_,_,_,_,_,_,_,mk110_of _ rfl,by rw [show s=0 by omega];rfl,rfl⟩
  case rest2 =>
   rintro _ wc ⟨x7,z8,z11,z12,z14,z27,z132,z207,z224,z272,z292,z344,F,rfl,rfl,rfl⟩;dsimp only [mk110];go_wp2_with fail
   refine (dig111_c (D.c (k+s)) _).mono ?_;rintro e w1 ⟨rfl,hw⟩;obtain rfl:=hw.symm;rw [HDG.out];by_cases hs0:s=0
   ·subst hs0;simp only [Nat.add_zero,Nat.zero_add] at bs b1 e105 e110 e48 e120 e111 e98;have bx:=HB.out 1 (by omega);have ex:((D.c (k+1):Int) == 98)=true:=e98;have ex120:((D.c (k+1):Int) == 120)=false:=e120;have ex111:((D.c (k+1):Int) == 111)=false:=e111;rcases qqg 2 n with hl2 | hl2
    ·have b2:=HB.out 2 (by omega);by_cases hd3:dval (D.c (k+2))<2
     ·have HD3:=qqh (qqt hd3);have HR9:Hid (sdThen (sdRun D 2 (k+(2+1))) (fun p => .good 11 p)=r):=(by show _=_;rw [<- HR.out,if_neg (by simp)];unfold scBase;rw [if_pos hd3]);clear hd3;go_wp2_with fail
      refine (dig119_c (D.c (k+2)) _).mono ?_;rintro e w1 ⟨rfl,hw⟩;obtain rfl:=hw.symm;rw [HD3.out];go_wp2_with fail
      refine (sdx2_c D _ _ C k n c (2+1) _ (by omega) _ (by exact HD.out) HV.out (by omega)).mono ?_;intro e w1 hpost;obtain ⟨r3,hr3⟩:∃ r1,sdRun D 2 (k+(2+1))=r1:=⟨_,rfl⟩;rw [hr3] at hpost;have HR3:=qqh hr3;clear hr3;have HPost:=qqh hpost;clear hpost;have herr:Hid ((r3=.bad\/r3=.opn)->(∃ v,e=.returned (.tuple #[.int .i64 0,v])/\Err w1 w.heap.size v)/\Kp Nil w w1):=by
       rintro (rfl | rfl)
       ·exact HPost.out
       ·exact HPost.out
      rcases sd_cases r3 with ⟨p3,rfl⟩ | hbad
      ·obtain ⟨rfl,hw⟩:=HPost.out;obtain rfl:=hw.symm;have hin3:=sd_in D 2 (by omega) _ _ _ rfl HR3.out;obtain ⟨j3,rfl⟩:∃ j,p3=k+j:=⟨p3 - k,by omega⟩;rw [Nat.add_sub_cancel_left];have hj31:2+1<=j3:=(by omega);have hj32:j3<=n:=(by have:=hin3.2 (by omega);omega);clear hin3 herr HPost;obtain rfl:R.good 11 (k+j3)=r:=(by rw [<- HR9.out,HR3.out,sdThen_good]);have hrunt:=upto_ (some ⟨bd,q,none⟩) n c (j3) (j3:Nat) rfl (by omega);obtain ⟨af,hvf,hrunf⟩:=VW.from_ HV.out hC1 (j3) ((j3:Nat):Int) rfl (by omega)
       skip
       have HVF:=qqh hvf;clear hvf;go_wp2_with fail
       go_quiet (fail)
       go_wp2_with fail
       refine bodyPost_ret (results_tmp5 rfl _ _ _) rfl ?_;refine ⟨(Kp.refl _ _).drewN _,_,_,_,?_,HVF.out⟩;rw [Nat.add_sub_cancel_left];rfl
      ·have HBad:=qqh hbad;obtain ⟨⟨v,rfl,hE⟩,hk1⟩:=herr.out hbad;obtain ⟨bb,rfl⟩:=Err.ptr hE;have HE:=qqh hE;clear hE hbad herr;go_wp2_with fail
       refine bodyPost_ret (results_tmp5 rfl _ _ _) rfl ?_;obtain rfl:R.bad=r:=(by rw [<- HR9.out];rcases HBad.out with h | h <;> (rw [HR3.out,h];rfl));exact ⟨⟨_,rfl,HE.out⟩,hk1⟩
     ·have HD3:=qqh (qqf hd3);have hrun:=upto_ (some ⟨bd,q,none⟩) n c 2 2 rfl (by omega);have HBD:Hid (R.bad=r):=(by show _=_;rw [<- HR.out,if_neg (by simp)];unfold scBase;rw [if_neg hd3]);clear hd3;go_wp2_with fail
      refine (dig119_c (D.c (k+2)) _).mono ?_;rintro e w1 ⟨rfl,hw⟩;obtain rfl:=hw.symm;rw [HD3.out];go_wp2_with fail
      refine (newErr_c _ _ _ _ _ (by omega)).mono ?_;rintro e w1 ⟨⟨v,rfl,hE⟩,hk1⟩;go_wp2_with fail
      refine bodyPost_ret (results_tmp5 rfl _ _ _) rfl ?_;obtain rfl:R.bad=r:=HBD.out;exact ⟨⟨_,rfl,hE⟩,hk1⟩
    ·have h0:=D.out (k+2) (by omega);have hrun:=upto_ (some ⟨bd,q,none⟩) n c 2 2 rfl (by omega);have HBD:Hid (R.bad=r):=(by show _=_;rw [<- HR.out,if_neg (by simp)];unfold scBase;rw [if_neg (by rw [h0,dval_0];omega)]);go_wp2_with fail
     refine (newErr_c _ _ _ _ _ (by omega)).mono ?_;rintro e w1 ⟨⟨v,rfl,hE⟩,hk1⟩;go_wp2_with fail
     refine bodyPost_ret (results_tmp5 rfl _ _ _) rfl ?_;obtain rfl:R.bad=r:=HBD.out;exact ⟨⟨_,rfl,hE⟩,hk1⟩
   ·have es0:((s:Int) != 0)=true:=(by rw [bne_iff_ne];omega);have hrun:=upto_ (some ⟨bd,q,none⟩) n c 2 2 rfl (by omega);have HBD:Hid (R.bad=r):=(by show _=_;rw [<- HR.out,if_pos hs0]);go_wp2_with fail
    refine (newErr_c _ _ _ _ _ (by omega)).mono ?_;rintro e w1 ⟨⟨v,rfl,hE⟩,hk1⟩;go_wp2_with fail
    refine bodyPost_ret (results_tmp5 rfl _ _ _) rfl ?_;obtain rfl:R.bad=r:=HBD.out;exact ⟨⟨_,rfl,hE⟩,hk1⟩
theorem scN_kwi (D:Doc) (A a:Option Addr) (C k n c s:Nat) (w:World) (hd:DocAt D A C w) (hv:VW D A C k a n c) (hk:k<D.n) (hs:sgnN D k=s) (hx:D.c (k+s)=105) :
  Calls Tryz.prog 110 #[.slice a n c] w (ScPost D A C k a c w (if hasB D (k+s) [105,110,102]=true then R.good 10 (k+s+3) else R.bad)):=by
 have hsm:=D.small;have hC1:=hd.1;have hC2:=hd.2.1;have hln:=qql hv.len;have hln':=qql hv.len.symm;have hcp:=qql hv.cap;have hcp':=qql hv.cap.symm;have hs2:s<=1:=by rw [<- hs];unfold sgnN;split <;> omega
 obtain ⟨bd,o,hA,ha⟩:=hv.at_ hk;subst hA ha;have hcell:∀ i,i<D.n->w.cell? ⟨bd,o+i,none⟩=some (.int .u8 (D.c i)):=by
  obtain ⟨_,_,h0 | ⟨bd',o',hA',hlt,hc⟩⟩:=hd
  ·omega
  ·injection hA' with hA';injection hA' with e1 e2;subst e1 e2;exact hc
 have HC:=qqh hcell;have hb:∀ i,k+i<D.n->w.cell? ⟨bd,o+k+i,none⟩=some (.int .u8 (D.c (k+i))):=fun i hi => by rw [Nat.add_assoc];exact hcell (k+i) hi
 clear hcell;obtain ⟨q,hq⟩:∃ q,o+k=q:=⟨_,rfl⟩;rw [hq] at hb hv ⊢;have HQ:=qqh hq;clear hq;obtain ⟨r,hr⟩:∃ r,(if hasB D (k+s) [105,110,102]=true then R.good 10 (k+s+3) else R.bad)=r:=⟨_,rfl⟩;rw [hr];have HB:=qqh hb;have HD:=qqh hd;have HV:=qqh hv;have HR:=qqh hr;have HS:=qqh hs;have b0:=hb 0 (by omega);simp only [Nat.add_zero] at b0;clear hb hd hv hr hs;go_enter Tryz.func110,Tryz.ntmps110;have hlt:k+s<D.n:=Doc.in_of (by omega);have bs:=HB.out s (by omega);have e105:((D.c (k+s):Int) == 105)=true:=by rw [beq_iff_eq];omega
 have e110:((D.c (k+s):Int) == 110)=false:=qqn (by omega);clear hx;go_upto_region 2 with fail;refine wp_cut (fun a' wx => ∃ (z8 z11 z12 z14 x27 z132 z207 z224 z272 z292 z344:Value) (F:Nat->Value),a'=mk110 (.slice (some ⟨bd,q,none⟩) n c) (.int .i64 0) z8 z11 z12 z14 x27 z132 z207 z224 z272 z292 z344 F/\x27=.bool (decide (s=1))/\w=wx) ?rest1 ?first1
 case first1 =>
  intro _ _ _ _;by_cases h43:D.c k=43
  ·have e43:((D.c (k):Int) == 43)=true:=(by rw [beq_iff_eq];omega);have h1:s=1:=(by rw [<- HS.out];unfold sgnN;rw [if_pos (.inl h43)]);go_wp2_with fail
   refine Met.intro ?_
   go_step
   exact ⟨_,_,_,_,_,_,_,_,_,_,_,_,mk110_of _ rfl,(congrArg Value.bool (by first | rfl | (symm;rw [decide_eq_true_iff];omega) | (symm;rw [decide_eq_false_iff_not];omega) | (rw [Bool.eq_iff_iff];simp;omega))),rfl⟩
  ·have e43:((D.c (k):Int) == 43)=false:=qqn (by omega);by_cases h45:D.c k=45
   ·have e45:((D.c (k):Int) == 45)=true:=(by rw [beq_iff_eq];omega);have h1:s=1:=(by rw [<- HS.out];unfold sgnN;rw [if_pos (.inr h45)]);go_wp2_with fail
    refine Met.intro ?_
    go_step
    exact ⟨_,_,_,_,_,_,_,_,_,_,_,_,mk110_of _ rfl,(congrArg Value.bool (by first | rfl | (symm;rw [decide_eq_true_iff];omega) | (symm;rw [decide_eq_false_iff_not];omega) | (rw [Bool.eq_iff_iff];simp;omega))),rfl⟩
   ·have e45:((D.c (k):Int) == 45)=false:=qqn (by omega);have h1:s=0:=(by rw [<- HS.out];unfold sgnN;rw [if_neg (by omega)]);go_wp2_with fail
    refine Met.intro ?_
    go_step
    exact ⟨_,_,_,_,_,_,_,_,_,_,_,_,mk110_of _ rfl,(congrArg Value.bool (by first | rfl | (symm;rw [decide_eq_true_iff];omega) | (symm;rw [decide_eq_false_iff_not];omega) | (rw [Bool.eq_iff_iff];simp;omega))),rfl⟩
 case rest1 =>
  rintro _ wc ⟨z8,z11,z12,z14,x27,z132,z207,z224,z272,z292,z344,F,rfl,h27,rfl⟩;dsimp only [mk110];go_upto_if 27 with fail;refine wp_cut (fun a' wx => ∃ (x7 z8 z11 z12 z14 z27 z132 z207 z224 z272 z292 z344:Value) (F:Nat->Value),a'=mk110 (.slice (some ⟨bd,q,none⟩) n c) x7 z8 z11 z12 z14 z27 z132 z207 z224 z272 z292 z344 F/\x7=.int .i64 (s:Nat)/\w=wx) ?rest2 ?first2
  case first2 =>
   intro _ _ _ _;by_cases hP:s=1
   ·rw [qqt hP] at h27;subst h27;go_wp2_with fail
    refine Met.intro ?_
    go_step
    exact ⟨_,_,_,_,_,_,_,_,_,_,_,_,_,mk110_of _ rfl,by subst hP;go_num,rfl⟩
   ·rw [qqf hP] at h27;subst h27;go_wp2_with fail
    refine Met.intro ?_
    go_step
    exact ⟨_,_,_,_,_,_,_,_,_,_,_,_,_,mk110_of _ rfl,by rw [show s=0 by omega];rfl,rfl⟩
  case rest2 =>
   rintro _ wc ⟨x7,z8,z11,z12,z14,z27,z132,z207,z224,z272,z292,z344,F,rfl,rfl,rfl⟩;dsimp only [mk110];rcases qqg n (s+3) with hn3 | hn3
   ·obtain ⟨asl,hvs,hrun⟩:=VW.sub HV.out hC1 s (s+1) s ((s:Int)+1) rfl (by omega) (by omega) (by omega);have HBD:Hid (R.bad=r):=(by show _=_;rw [<- HR.out,if_neg];intro hh;have:=hasB_le hh;simp at this;omega);clear hvs;go_wp2_with fail
    refine (newErr_c _ _ _ _ _ (by omega)).mono ?_;rintro e w1 ⟨⟨v,rfl,hE⟩,hk1⟩;go_wp2_with fail
    refine bodyPost_ret (results_tmp5 rfl _ _ _) rfl ?_;obtain rfl:R.bad=r:=HBD.out;exact ⟨⟨_,rfl,hE⟩,hk1⟩
   ·obtain ⟨as3,hvs,hrun3⟩:=VW.sub HV.out hC1 s (s+3) s ((s:Int)+3) rfl (by omega) (by omega) (by omega);obtain ⟨bd',o',e1,e2⟩:=hvs.at_ (by omega);injection e1 with e1;injection e1 with e1 e3;subst e1 e3 e2;rw [show s+3 - s=3 by omega] at hrun3;have hcv:=conv_doc D bd o (k+s) 3 (c - s) w HC.out (by omega);clear hvs;by_cases hh:hasB D (k+s) [105,110,102]=true
    ·have he:D.sub (k+s) 3=[105,110,102]:=(by unfold hasB at hh;simp at hh;exact hh.2);rw [he] at hcv;have hnt:(([105,110,102]:List UInt8) == [105,110,102])=true:=rfl;obtain rfl:R.good 10 (k+(s+3))=r:=(by rw [<- HR.out,if_pos hh,Nat.add_assoc]);clear hh he;have hrunt:=upto_ (some ⟨bd,q,none⟩) n c (s+3) ((s:Int)+3) (by omega) (by omega);obtain ⟨af,hvf,hrunf⟩:=VW.from_ HV.out hC1 (s+3) ((s:Int)+3) (by omega) (by omega);have HVF:=qqh hvf;clear hvf;go_wp2_with fail
     go_quiet (fail)
     go_wp2_with fail
     refine bodyPost_ret (results_tmp5 rfl _ _ _) rfl ?_;refine ⟨(Kp.refl _ _).drewN _,_,_,_,?_,HVF.out⟩;rw [Nat.add_sub_cancel_left];rfl
    ·have he:D.sub (k+s) 3 ≠ [105,110,102]:=by
      intro he
      apply hh
      unfold hasB;simp only [List.length_cons,List.length_nil,Nat.zero_add];rw [he];simp;omega
     obtain ⟨T,hT⟩:∃ T:ByteArray,(⟨(D.sub (k+s) 3).toArray⟩:ByteArray)=T:=⟨_,rfl⟩;have hne:(T.toList == ([105,110,102]:List UInt8))=false:=by
      rw [beq_eq_false_iff_ne,<- hT];intro e;exact he (by simpa using e)
     rw [hT] at hcv;obtain ⟨asl,hvs,hrun⟩:=VW.sub HV.out hC1 s (s+1) s ((s:Int)+1) rfl (by omega) (by omega) (by omega);have HBD:Hid (R.bad=r):=(by show _=_;rw [<- HR.out,if_neg hh]);clear hvs he hT hh;go_wp2_with fail
     refine (newErr_c _ _ _ _ _ (by omega)).mono ?_;rintro e w1 ⟨⟨v,rfl,hE⟩,hk1⟩;go_wp2_with fail
     refine bodyPost_ret (results_tmp5 rfl _ _ _) rfl ?_;obtain rfl:R.bad=r:=HBD.out;exact ⟨⟨_,rfl,hE⟩,hk1⟩
theorem scN_kwn (D:Doc) (A a:Option Addr) (C k n c s:Nat) (w:World) (hd:DocAt D A C w) (hv:VW D A C k a n c) (hk:k<D.n) (hs:sgnN D k=s) (hx:D.c (k+s)=110) :
  Calls Tryz.prog 110 #[.slice a n c] w (ScPost D A C k a c w (if hasB D (k+s) [110,97,110]=true then R.good 10 (k+s+3) else R.bad)):=by
 have hsm:=D.small;have hC1:=hd.1;have hC2:=hd.2.1;have hln:=qql hv.len;have hln':=qql hv.len.symm;have hcp:=qql hv.cap;have hcp':=qql hv.cap.symm;have hs2:s<=1:=by rw [<- hs];unfold sgnN;split <;> omega
 obtain ⟨bd,o,hA,ha⟩:=hv.at_ hk;subst hA ha;have hcell:∀ i,i<D.n->w.cell? ⟨bd,o+i,none⟩=some (.int .u8 (D.c i)):=by
  obtain ⟨_,_,h0 | ⟨bd',o',hA',hlt,hc⟩⟩:=hd
  ·omega
  ·injection hA' with hA';injection hA' with e1 e2;subst e1 e2;exact hc
 have HC:=qqh hcell;have hb:∀ i,k+i<D.n->w.cell? ⟨bd,o+k+i,none⟩=some (.int .u8 (D.c (k+i))):=fun i hi => by rw [Nat.add_assoc];exact hcell (k+i) hi
 clear hcell;obtain ⟨q,hq⟩:∃ q,o+k=q:=⟨_,rfl⟩;rw [hq] at hb hv ⊢;have HQ:=qqh hq;clear hq;obtain ⟨r,hr⟩:∃ r,(if hasB D (k+s) [110,97,110]=true then R.good 10 (k+s+3) else R.bad)=r:=⟨_,rfl⟩;rw [hr];have HB:=qqh hb;have HD:=qqh hd;have HV:=qqh hv;have HR:=qqh hr;have HS:=qqh hs;have b0:=hb 0 (by omega);simp only [Nat.add_zero] at b0;clear hb hd hv hr hs;go_enter Tryz.func110,Tryz.ntmps110;have hlt:k+s<D.n:=Doc.in_of (by omega);have bs:=HB.out s (by omega);have e105:((D.c (k+s):Int) == 105)=false:=qqn (by omega);have e110:((D.c (k+s):Int) == 110)=true:=by rw [beq_iff_eq];omega
 clear hx;go_upto_region 2 with fail;refine wp_cut (fun a' wx => ∃ (z8 z11 z12 z14 x27 z132 z207 z224 z272 z292 z344:Value) (F:Nat->Value),a'=mk110 (.slice (some ⟨bd,q,none⟩) n c) (.int .i64 0) z8 z11 z12 z14 x27 z132 z207 z224 z272 z292 z344 F/\x27=.bool (decide (s=1))/\w=wx) ?rest1 ?first1
 case first1 =>
  intro _ _ _ _;by_cases h43:D.c k=43
  ·have e43:((D.c (k):Int) == 43)=true:=(by rw [beq_iff_eq];omega);have h1:s=1:=(by rw [<- HS.out];unfold sgnN;rw [if_pos (.inl h43)]);go_wp2_with fail
   refine Met.intro ?_
   go_step
   exact ⟨_,_,_,_,_,_,_,_,_,_,_,_,mk110_of _ rfl,(congrArg Value.bool (by first | rfl | (symm;rw [decide_eq_true_iff];omega) | (symm;rw [decide_eq_false_iff_not];omega) | (rw [Bool.eq_iff_iff];simp;omega))),rfl⟩
  ·have e43:((D.c (k):Int) == 43)=false:=qqn (by omega);by_cases h45:D.c k=45
   ·have e45:((D.c (k):Int) == 45)=true:=(by rw [beq_iff_eq];omega);have h1:s=1:=(by rw [<- HS.out];unfold sgnN;rw [if_pos (.inr h45)]);go_wp2_with fail
    refine Met.intro ?_
    go_step
    exact ⟨_,_,_,_,_,_,_,_,_,_,_,_,mk110_of _ rfl,(congrArg Value.bool (by first | rfl | (symm;rw [decide_eq_true_iff];omega) | (symm;rw [decide_eq_false_iff_not];omega) | (rw [Bool.eq_iff_iff];simp;omega))),rfl⟩
   ·have e45:((D.c (k):Int) == 45)=false:=qqn (by omega);have h1:s=0:=(by rw [<- HS.out];unfold sgnN;rw [if_neg (by omega)]);go_wp2_with fail
    refine Met.intro ?_
    go_step
    exact ⟨_,_,_,_,_,_,_,_,_,_,_,_,mk110_of _ rfl,(congrArg Value.bool (by first | rfl | (symm;rw [decide_eq_true_iff];omega) | (symm;rw [decide_eq_false_iff_not];omega) | (rw [Bool.eq_iff_iff];simp;omega))),rfl⟩
 case rest1 =>
  rintro _ wc ⟨z8,z11,z12,z14,x27,z132,z207,z224,z272,z292,z344,F,rfl,h27,rfl⟩;dsimp only [mk110];go_upto_if 27 with fail;refine wp_cut (fun a' wx => ∃ (x7 z8 z11 z12 z14 z27 z132 z207 z224 z272 z292 z344:Value) (F:Nat->Value),a'=mk110 (.slice (some ⟨bd,q,none⟩) n c) x7 z8 z11 z12 z14 z27 z132 z207 z224 z272 z292 z344 F/\x7=.int .i64 (s:Nat)/\w=wx) ?rest2 ?first2
  case first2 =>
   intro _ _ _ _;by_cases hP:s=1
   ·rw [qqt hP] at h27;subst h27;go_wp2_with fail
    refine Met.intro ?_
    go_step
    exact ⟨_,_,_,_,_,_,_,_,_,_,_,_,_,mk110_of _ rfl,by subst hP;go_num,rfl⟩
   ·rw [qqf hP] at h27;subst h27;go_wp2_with fail
    refine Met.intro ?_
    go_step
    exact ⟨_,_,_,_,_,_,_,_,_,_,_,_,_,mk110_of _ rfl,by rw [show s=0 by omega];rfl,rfl⟩
  case rest2 =>
   rintro _ wc ⟨x7,z8,z11,z12,z14,z27,z132,z207,z224,z272,z292,z344,F,rfl,rfl,rfl⟩;dsimp only [mk110];rcases qqg n (s+3) with hn3 | hn3
   ·obtain ⟨asl,hvs,hrun⟩:=VW.sub HV.out hC1 s (s+1) s ((s:Int)+1) rfl (by omega) (by omega) (by omega);have HBD:Hid (R.bad=r):=(by show _=_;rw [<- HR.out,if_neg];intro hh;have:=hasB_le hh;simp at this;omega);clear hvs;go_wp2_with fail
    refine (newErr_c _ _ _ _ _ (by omega)).mono ?_;rintro e w1 ⟨⟨v,rfl,hE⟩,hk1⟩;go_wp2_with fail
    refine bodyPost_ret (results_tmp5 rfl _ _ _) rfl ?_;obtain rfl:R.bad=r:=HBD.out;exact ⟨⟨_,rfl,hE⟩,hk1⟩
   ·obtain ⟨as3,hvs,hrun3⟩:=VW.sub HV.out hC1 s (s+3) s ((s:Int)+3) rfl (by omega) (by omega) (by omega);obtain ⟨bd',o',e1,e2⟩:=hvs.at_ (by omega);injection e1 with e1;injection e1 with e1 e3;subst e1 e3 e2;rw [show s+3 - s=3 by omega] at hrun3;have hcv:=conv_doc D bd o (k+s) 3 (c - s) w HC.out (by omega);clear hvs;by_cases hh:hasB D (k+s) [110,97,110]=true
    ·have he:D.sub (k+s) 3=[110,97,110]:=(by unfold hasB at hh;simp at hh;exact hh.2);rw [he] at hcv;have hnt:(([105,110,102]:List UInt8) == [105,110,102])=true:=rfl;obtain rfl:R.good 10 (k+(s+3))=r:=(by rw [<- HR.out,if_pos hh,Nat.add_assoc]);clear hh he;have hrunt:=upto_ (some ⟨bd,q,none⟩) n c (s+3) ((s:Int)+3) (by omega) (by omega);obtain ⟨af,hvf,hrunf⟩:=VW.from_ HV.out hC1 (s+3) ((s:Int)+3) (by omega) (by omega);have HVF:=qqh hvf;clear hvf;go_wp2_with fail
     go_quiet (fail)
     go_wp2_with fail
     refine bodyPost_ret (results_tmp5 rfl _ _ _) rfl ?_;refine ⟨(Kp.refl _ _).drewN _,_,_,_,?_,HVF.out⟩;rw [Nat.add_sub_cancel_left];rfl
    ·have he:D.sub (k+s) 3 ≠ [110,97,110]:=by
      intro he
      apply hh
      unfold hasB;simp only [List.length_cons,List.length_nil,Nat.zero_add];rw [he];simp;omega
     obtain ⟨T,hT⟩:∃ T:ByteArray,(⟨(D.sub (k+s) 3).toArray⟩:ByteArray)=T:=⟨_,rfl⟩;have hne:(T.toList == ([110,97,110]:List UInt8))=false:=by
      rw [beq_eq_false_iff_ne,<- hT];intro e;exact he (by simpa using e)
     rw [hT] at hcv;obtain ⟨asl,hvs,hrun⟩:=VW.sub HV.out hC1 s (s+1) s ((s:Int)+1) rfl (by omega) (by omega) (by omega);have HBD:Hid (R.bad=r):=(by show _=_;rw [<- HR.out,if_neg hh]);clear hvs he hT hh;go_wp2_with fail
     refine (newErr_c _ _ _ _ _ (by omega)).mono ?_;rintro e w1 ⟨⟨v,rfl,hE⟩,hk1⟩;go_wp2_with fail
     refine bodyPost_ret (results_tmp5 rfl _ _ _) rfl ?_;obtain rfl:R.bad=r:=HBD.out;exact ⟨⟨_,rfl,hE⟩,hk1⟩
theorem scN_c (D:Doc) (A a:Option Addr) (C k n c:Nat) (w:World) (hd:DocAt D A C w) (hv:VW D A C k a n c) (hk:k<D.n) :
  Calls Tryz.prog 110 #[.slice a n c] w (ScPost D A C k a c w (scN D k)):=by
 obtain ⟨s,hs⟩:∃ s,sgnN D k=s:=⟨_,rfl⟩;unfold scN;rw [hs];by_cases h1:D.n<=k+s
 ·rw [if_pos h1];exact scN_err D A a C k n c s w hd hv hk hs (fun h => by omega)
 rw [if_neg h1];by_cases h2:D.c (k+s)=105
 ·rw [if_pos h2];exact scN_kwi D A a C k n c s w hd hv hk hs h2
 rw [if_neg h2];by_cases h3:D.c (k+s)=110
 ·rw [if_pos h3];exact scN_kwn D A a C k n c s w hd hv hk hs h3
 rw [if_neg h3];by_cases h4:dval (D.c (k+s))<10
 ·rw [if_neg (by omega)];by_cases h5:D.c (k+s)=48/\radB (D.c (k+s+1)) ≠ 0
  ·rw [if_pos h5];obtain ⟨h6,h7⟩:=h5;have h8:=radB_nz h7;by_cases hs0:s=0
   ·subst hs0;rw [Nat.add_zero] at h8;rcases h8 with h8 | h8 | h8
    ·have:=scN_rad16 D A a C k n c 0 w hd hv hk hs h6 h8;rw [h8];exact this
    ·have:=scN_rad8 D A a C k n c 0 w hd hv hk hs h6 h8;rw [h8];exact this
    ·have:=scN_rad2 D A a C k n c 0 w hd hv hk hs h6 h8;rw [h8];exact this
   ·rw [if_pos hs0];rcases h8 with h8 | h8 | h8
    ·have:=scN_rad16 D A a C k n c s w hd hv hk hs h6 (by rw [<- Nat.add_assoc];exact h8);rw [if_pos hs0] at this;exact this
    ·have:=scN_rad8 D A a C k n c s w hd hv hk hs h6 (by rw [<- Nat.add_assoc];exact h8);rw [if_pos hs0] at this;exact this
    ·have:=scN_rad2 D A a C k n c s w hd hv hk hs h6 (by rw [<- Nat.add_assoc];exact h8);rw [if_pos hs0] at this;exact this
  ·rw [if_neg h5];exact scN_dec D A a C k n c s w hd hv hk hs (by omega) h4 (by rw [<- Nat.add_assoc];exact h5)
 ·rw [if_pos h4];exact scN_err D A a C k n c s w hd hv hk hs (fun _ => ⟨h2,h3,h4⟩)
end Go.Proofs.YtpgmddjgcgpoeaaGreat
