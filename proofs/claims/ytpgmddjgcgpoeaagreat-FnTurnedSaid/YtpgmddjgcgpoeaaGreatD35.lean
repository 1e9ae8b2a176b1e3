/-
  A part of the proof.
-/
import Derived.Test.YtpgmddjgcgpoeaaGreatD34
import Derived.Test.YtpgmddjgcgpoeaaGreatD30
import Derived.Test.YtpgmddjgcgpoeaaGreatD32
import Derived.Test.YtpgmddjgcgpoeaaGreatD33
import Derived.Test.YtpgmddjgcgpoeaaGreatD29
set_option linter.unusedVariables false
set_option linter.unusedSimpArgs false
set_option maxRecDepth 100000
set_option maxHeartbeats 8000000
namespace Go.Proofs.YtpgmddjgcgpoeaaGreat
open Go.RowKit
theorem mbasic_c (D:Doc) (A a:Option Addr) (C k n c:Nat) (pv:Value) (w:World) (hd:DocAt D A C w) (hv:VW D A C k a n c) (hk:k+3<=D.n) (hno:lin D 34 k ≠ .opn) :
  Calls Tryz.prog 94 #[pv,.slice a n c] w (LinPost D A C k c w (lin D 34 k)):=by
 have hs:=D.small;have hC1:=hd.1;have hC2:=hd.2.1;have hln:=qql hv.len;have hln':=qql hv.len.symm;have hcp:=qql hv.cap;have hcp':=qql hv.cap.symm;obtain ⟨bd,q,rfl,hb⟩:=hv.bytes hd (by omega);obtain ⟨r,hr⟩:∃ r,lin D 34 k=r:=⟨_,rfl⟩;have HR1:Hid (linRun D 34 (k+(3+nlen D (k+3))) (D.sub (k+(3+nlen D (k+3))) ((3+nlen D (k+3)) - (3+nlen D (k+3))))=r):=by
  show _=_;rw [<- hr,Nat.sub_self,Doc.sub_zero,<- Nat.add_assoc];rfl
 rw [hr] at hno ⊢;have HNO:=qqh hno;have HB:=qqh hb;have HD:=qqh hd;have HV:=qqh hv;have hnl:k+(3+nlen D (k+3))<=D.n:=by
  rcases Nat.eq_zero_or_pos (nlen D (k+3)) with h | h
  ·omega
  ·have:=nlen_inq (D:=D) (k:=k+3) (by omega);omega
 have HNL:Hid (nlen D (k+3)=if D.c (k+3)=10 then 1 else if D.c (k+3)=13/\D.c (k+(3+1))=10 then 2 else 0):=rfl;obtain ⟨cs,hcs⟩:∃ cs,3+nlen D (k+3)=cs:=⟨_,rfl⟩;rw [hcs] at HR1 hnl;have HCS:=qqh hcs;have hcs3:3<=cs:=by omega
 clear hb hd hv hr hcs hno;rcases qqg 3 n with h3 | h3
 ·have b3:=HB.out 3 (by omega);go_enter Tryz.func94,Tryz.ntmps94;go_upto_if 25 with fail;go_cut [8] (fun x wx => x=.int .i64 (cs:Nat)/\w=wx)
  case first =>
   by_cases h10:D.c (k+3)=10
   ·have e1:((D.c (k+3):Int) == 10)=true:=(by rw [beq_iff_eq];omega);have hx:cs=4:=(by rw [<- HCS.out,HNL.out,if_pos h10]);have HX:=qqh hx;clear h10 hx;go_wp2_with fail
    go_meet;exact ⟨by rw [HX.out];rfl,rfl⟩
   ·have e1:((D.c (k+3):Int) == 10)=false:=qqn (by omega);by_cases h13:D.c (k+3)=13/\D.c (k+(3+1))=10
    ·have hin:=Doc.in_of (D:=D) (k:=k+(3+1)) (by omega);have b4:=HB.out (3+1) (by omega);have e2:((D.c (k+3):Int) == 13)=true:=(by rw [beq_iff_eq];omega);have e3:((D.c (k+(3+1)):Int) == 10)=true:=(by rw [beq_iff_eq];omega);have hx:cs=5:=(by rw [<- HCS.out,HNL.out,if_neg h10,if_pos h13]);have HX:=qqh hx;clear h10 hx h13;go_wp2_with fail
     go_meet;exact ⟨by rw [HX.out];rfl,rfl⟩
    ·have hx:cs=3:=(by rw [<- HCS.out,HNL.out,if_neg h10,if_neg h13]);have HX:=qqh hx;rcases qqg (3+1) n with h4 | h4
     ·have b4:=HB.out (3+1) (by omega);by_cases hx13:D.c (k+3)=13
      ·have e2:((D.c (k+3):Int) == 13)=true:=(by rw [beq_iff_eq];omega);have e3:((D.c (k+(3+1)):Int) == 10)=false:=qqn (by omega);clear h10 hx h13 hx13;go_wp2_with fail
       go_meet;exact ⟨by rw [HX.out];rfl,rfl⟩
      ·have e2:((D.c (k+3):Int) == 13)=false:=qqn (by omega);clear h10 hx h13 hx13;go_wp2_with fail
       go_meet;exact ⟨by rw [HX.out];rfl,rfl⟩
     ·clear h10 hx h13;go_wp2_with fail
      go_meet;exact ⟨by rw [HX.out];rfl,rfl⟩
  case rest =>
   obtain ⟨rfl,rfl⟩:=hcut;clear HNL HCS b3;go_wp2_with fail
   go_loop [8] (fun x => ∃ (j:Nat),cs<=j/\j<=n/\x=.int .i64 j/\Hid (linRun D 34 (k+j) (D.sub (k+cs) (j - cs))=r)) (fun x => n - (intOf x).toNat)
   case atStart => exact ⟨cs,by omega,by omega,rfl,HR1⟩
   case round =>
    obtain ⟨i,hi1,hi2,rfl,HRi⟩:=hrel;rcases qqg i n with hlt2 | hge2
    ·have b0:=HB.out i (by omega);have hcl:=D.lt (k+i);have hnext:∀ m,linRun D 34 (k+i) (D.sub (k+cs) (i - cs))=linRun D 34 (k+i+m) (D.sub (k+cs) (i - cs)++D.sub (k+i) m)->Hid (linRun D 34 (k+(i+m)) (D.sub (k+cs) (i+m - cs))=r):=by
      intro m h;show _=_;rw [<- HRi.out,h,show i+m - cs=(i - cs)+m by omega,Doc.sub_add,show k+cs+(i - cs)=k+i by omega,show k+(i+m)=k+i+m by omega]
     by_cases h34:D.c (k+i)=34
     ·have e1:((D.c (k+i):Int) == 34)=true:=(by rw [beq_iff_eq];omega);have hq:=qrun_all D 34 _ (k+i) rfl;have hqn:=qrun_not D 34 (k+i) (by omega);have hfew:=lin_few (D:=D) (q:=34) (p:=k+i) (acc:=D.sub (k+cs) (i - cs)) (.inl rfl);have hclose:=lin_close (D:=D) (q:=34) (p:=k+i) (acc:=D.sub (k+cs) (i - cs)) (.inl rfl);have hq1:1<=qrun D 34 (k+i):=(by rw [qrun_go h34 (by omega)];omega);obtain ⟨m,hm⟩:∃ m,qrun D 34 (k+i)=m:=⟨_,rfl⟩;rw [hm] at hq hqn hfew hclose hq1;have hle:=hq.2.1 (by omega);have HQ:=qqh hq.1;have HQN:=qqh hqn;have HF:=qqh hfew;have HCL:=qqh hclose;clear hq hqn hfew hclose hm h34
      go_upto_block 3 with fail
      go_cut [11] (fun x wx => x=.int .i64 ((i+m:Nat):Int)/\w=wx)
      case first =>
       go_wp2_with fail
       go_loop [11] (fun x => ∃ t:Nat,t<=m/\x=.int .i64 ((i+t:Nat):Int)) (fun x => n - (intOf x).toNat)
       case atStart => exact ⟨0,by omega,rfl⟩
       case round =>
        obtain ⟨t,ht,rfl⟩:=hrel;rcases qqg t m with htm | htm
        ·have bt:=HB.out (i+t) (by omega);have hh:=HQ.out t htm;have e2:((D.c (k+(i+t)):Int) == 34)=true:=(by rw [beq_iff_eq,<- Nat.add_assoc,hh];rfl);clear hh;go_wp2_with fail
         go_round
         case rel => exact ⟨t+1,by omega,by go_num⟩
         case measure => simp [intOf];omega
        ·obtain rfl:t=m:=(by omega);rcases qqg (i+t) n with hl | hl
         ·have bt:=HB.out (i+t) (by omega);have e2:((D.c (k+(i+t)):Int) == 34)=false:=by
           rw [beq_eq_false_iff_ne,<- Nat.add_assoc];have:=HQN.out;omega
          go_wp2_with fail
          go_meet;exact ⟨rfl,rfl⟩
         ·go_wp2_with fail
          go_meet;exact ⟨rfl,rfl⟩
      case rest =>
       obtain ⟨rfl,rfl⟩:=hcut;rcases qqg m 3 with hm3 | hm3
       ·have HN:=hnext m (HF.out (by omega));clear hnext;go_wp2_with fail
        go_round
        case rel => exact ⟨i+m,by omega,by omega,rfl,HN⟩
        case measure => simp [intOf];omega
       ·have hr2:=(HRi.out).symm.trans (HCL.out hm3);rcases qqg 5 m with hm5 | hm5
        ·obtain ⟨asl,hvs,hrun⟩:=VW.sub HV.out hC1 i (i+m) i ((i+m:Nat):Int) rfl rfl (by omega) (by omega);have hnext5:=HQ.out 5 hm5;rw [show min m 5=5 by omega] at hr2;have HR2:=qqh hr2;have HN5:=qqh hnext5;clear hvs hnext hr2 hnext5;go_wp2_with fail
         refine (newErr_c _ _ _ _ _ (by omega)).mono ?_;rintro e w1 ⟨⟨v,rfl,hE⟩,hk1⟩;go_wp2_with fail
         refine bodyPost_ret (results_tmp4 rfl _ _ _) rfl ?_;exact .inr ⟨⟨⟨_,rfl,hE⟩,hk1⟩,_,_,HR2.out,.inl HN5.out⟩
        ·rw [show min m 5=m by omega] at hr2;obtain rfl:=hr2;obtain ⟨af,hvf,hrunf⟩:=VW.from_ HV.out hC1 (i+m) ((i:Int)+(m:Int)) (by omega) (by omega);have hrunt:=upto_ (some ⟨bd,q,none⟩) n c (i+m) ((i:Int)+(m:Int)) (by omega) (by omega);obtain ⟨av,hvv,hrunv⟩:=VW.sub HV.out hC1 cs (i+m - 3) cs ((i:Int)+((i:Int)+(m:Int) - (i:Int)) - 3) rfl (by omega) (by omega) (by omega);have HVF:=qqh hvf;have HVV:=qqh hvv;clear hvf hvv hnext;go_wp2_with fail
         go_quiet (fail)
         go_wp2_with fail
         refine bodyPost_ret (results_tmp4 rfl _ _ _) rfl ?_;refine .inl ⟨(Kp.refl _ _).drewN _,_,_,_,_,_,rfl_str (by omega),?_,by have:=HVF.out;rw [<- Nat.add_assoc] at this;exact this⟩;rw [<- Doc.sub_add' D (k+cs) (i - cs) (m - 3) (k+i) (by omega)];have hrd:=fun nq => Rd.doc HVV.out (HD.out.kp (S:=Nil) ((Kp.refl Nil w).drewN nq) (fun _ _ h => h)) (i+m - 3 - cs) (c - cs) w.heap.size (by omega)
         rw [show i - cs+(m - 3)=i+m - 3 - cs by omega];exact hrd _
     ·have e1:((D.c (k+i):Int) == 34)=false:=qqn (by omega);have h3':¬ three D 34 (k+i):=not_three h34;by_cases h92:D.c (k+i)=92
      ·have e92:((D.c (k+i):Int) == 92)=true:=(by rw [beq_iff_eq];omega);clear hnext h34 h92 h3';go_wp2_with fail
       refine (mbesc_c D A _ C k n c cs i pv r _ (by exact HD.out) HV.out hcs3 (by omega) (by omega) HRi.out HNO.out).mono ?_;intro e w1 hpost;have HPost:=qqh hpost;clear hpost;rcases HPost.out with hp | ⟨⟨⟨v,rfl,hE⟩,hk1⟩,l,p,hr1,hr2⟩
       ·have HP:=qqh hp;clear hp HPost;cases r with
        | good l p =>
         obtain ⟨hk1,a0,v,a1,n1,c1,rfl,hrd,hvw⟩:=HP.out;have HRD:=qqh hrd;have HVW:=qqh hvw;have HK1:=qqh hk1;obtain ⟨va,vc,hve,hvl⟩:=HRD.out;subst hve;clear hrd hvw hvl hk1;go_wp2_with fail
         refine bodyPost_ret (results_tmp4 rfl _ _ _) rfl ?_;exact .inl ⟨HK1.out,_,_,_,_,_,rfl,HRD.out,HVW.out⟩
        | bad =>
         obtain ⟨⟨v,rfl,hE⟩,hk1⟩:=HP.out;go_wp2_with fail
         refine bodyPost_ret (results_tmp4 rfl _ _ _) rfl ?_;exact .inl ⟨⟨_,rfl,hE⟩,hk1⟩
        | opn => exact absurd rfl HNO.out
       ·have HR1':=qqh hr1;have HR2':=qqh hr2;have HE:=qqh hE;clear hr1 hr2 hE HPost;go_wp2_with fail
        refine bodyPost_ret (results_tmp4 rfl _ _ _) rfl ?_;exact .inr ⟨⟨⟨_,rfl,HE.out⟩,hk1⟩,_,_,HR1'.out,HR2'.out⟩
      have e92:((D.c (k+i):Int) == 92)=false:=qqn (by omega);rcases qqg (D.c (k+i)) 128 with hc | hc
      ·by_cases hpl:32<=D.c (k+i)/\D.c (k+i)<127
       ·have e2:decide (32<=(D.c (k+i):Int))=true:=qqt (by omega);have e3:decide ((D.c (k+i):Int)<127)=true:=qqt (by omega);have HN:=hnext 1 (lin_one (by omega) (sg_plain hpl) h3' (fun h => h92 h.1) (by omega));clear hpl hc hnext h34 h92 h3';go_wp2_with fail
        go_round
        case rel => exact ⟨i+1,by omega,by omega,by go_num,HN⟩
        case measure => simp [intOf];omega
       ·by_cases h9:D.c (k+i)=9
        ·have e2:decide (32<=(D.c (k+i):Int))=false:=qqf (by omega);have e4:((D.c (k+i):Int) == 9)=true:=(by rw [beq_iff_eq];omega);have HN:=hnext 1 (lin_one (by omega) (sg_tab h9) h3' (fun h => h92 h.1) (by omega));clear hpl hc hnext h34 h92 h9 h3';go_wp2_with fail
         go_round
         case rel => exact ⟨i+1,by omega,by omega,by go_num,HN⟩
         case measure => simp [intOf];omega
        ·have e4:((D.c (k+i):Int) == 9)=false:=qqn (by omega);by_cases h10:D.c (k+i)=10
         ·have e2:decide (32<=(D.c (k+i):Int))=false:=qqf (by omega);have e5:((D.c (k+i):Int) == 10)=true:=(by rw [beq_iff_eq];omega);have HN:=hnext 1 (lin_nl' h10 (by omega));clear hpl hc hnext h34 h92 h9 h10 h3';go_wp2_with fail
          go_round
          case rel => exact ⟨i+1,by omega,by omega,by go_num,HN⟩
          case measure => simp [intOf];omega
         ·have e5:((D.c (k+i):Int) == 10)=false:=qqn (by omega);obtain ⟨asl,hvs,hrun⟩:=VW.sub HV.out hC1 i (i+1) i ((i:Int)+1) rfl (by omega) (by omega) (by omega);by_cases h13:D.c (k+i)=13
          ·have e2:decide (32<=(D.c (k+i):Int))=false:=qqf (by omega);have e6:((D.c (k+i):Int) == 13)=true:=(by rw [beq_iff_eq];omega);by_cases hnx:D.c (k+(i+1))=10
           ·have hin:=Doc.in_of (D:=D) (k:=k+(i+1)) (by omega);have b1:=HB.out (i+1) (by omega);have e7:((D.c (k+(i+1)):Int) == 10)=true:=(by rw [beq_iff_eq];omega);have HN:=hnext 2 (lin_crnl' ⟨h13,hnx⟩ (by omega));clear hpl hc hnext h34 h92 h9 h10 h3' h13 hnx hvs hrun;go_wp2_with fail
            go_round
            case rel => exact ⟨i+2,by omega,by omega,by go_num,HN⟩
            case measure => simp [intOf];omega
           ·obtain rfl:R.bad=r:=(by rw [<- HRi.out];exact (lin_bad (by omega) h3' (fun h => h92 h.1) h10 (fun h => hnx h.2) (sg_low hc (by omega))).symm);clear hnext hvs;rcases qqg (i+1) n with hl3 | hl3
            ·have b1:=HB.out (i+1) (by omega);have e7:((D.c (k+(i+1)):Int) == 10)=false:=qqn (by omega);clear hpl hc h34 h92 h9 h10 h3' h13 hnx;go_wp2_with fail
             refine (newErr_c _ _ _ _ _ (by omega)).mono ?_;rintro e w1 ⟨⟨v,rfl,hE⟩,hk1⟩;go_wp2_with fail
             refine bodyPost_ret (results_tmp4 rfl _ _ _) rfl ?_;exact .inl ⟨⟨_,rfl,hE⟩,hk1⟩
            ·clear hpl hc h34 h92 h9 h10 h3' h13 hnx;go_wp2_with fail
             refine (newErr_c _ _ _ _ _ (by omega)).mono ?_;rintro e w1 ⟨⟨v,rfl,hE⟩,hk1⟩;go_wp2_with fail
             refine bodyPost_ret (results_tmp4 rfl _ _ _) rfl ?_;exact .inl ⟨⟨_,rfl,hE⟩,hk1⟩
          ·have e6:((D.c (k+i):Int) == 13)=false:=qqn (by omega);have e8:decide ((D.c (k+i):Int)<128)=true:=qqt (by omega);obtain rfl:R.bad=r:=(by rw [<- HRi.out];exact (lin_bad (by omega) h3' (fun h => h92 h.1) h10 (fun h => h13 h.1) (sg_low hc (by omega))).symm);clear hnext hvs;rcases qqg (D.c (k+i)) 32 with h | h
           ·have e2:decide (32<=(D.c (k+i):Int))=false:=qqf (by omega);clear h34 h92 hpl h9 h10 h13 hc h3';go_wp2_with fail
            refine (newErr_c _ _ _ _ _ (by omega)).mono ?_;rintro e w1 ⟨⟨v,rfl,hE⟩,hk1⟩;go_wp2_with fail
            refine bodyPost_ret (results_tmp4 rfl _ _ _) rfl ?_;exact .inl ⟨⟨_,rfl,hE⟩,hk1⟩
           ·have e2:decide (32<=(D.c (k+i):Int))=true:=qqt (by omega);have e3:decide ((D.c (k+i):Int)<127)=false:=qqf (by omega);clear h34 h92 hpl h9 h10 h13 hc h3';go_wp2_with fail
            refine (newErr_c _ _ _ _ _ (by omega)).mono ?_;rintro e w1 ⟨⟨v,rfl,hE⟩,hk1⟩;go_wp2_with fail
            refine bodyPost_ret (results_tmp4 rfl _ _ _) rfl ?_;exact .inl ⟨⟨_,rfl,hE⟩,hk1⟩
      ·have e2:decide (32<=(D.c (k+i):Int))=true:=qqt (by omega);have e3:decide ((D.c (k+i):Int)<127)=false:=qqf (by omega);have e4:((D.c (k+i):Int) == 9)=false:=qqn (by omega);have e5:((D.c (k+i):Int) == 10)=false:=qqn (by omega);have e6:((D.c (k+i):Int) == 13)=false:=qqn (by omega);have e7:decide ((D.c (k+i):Int)<128)=false:=qqf (by omega);have hu:=lin_utf D 34 (by omega) _ (k+i) (D.sub (k+cs) (i - cs)) rfl;have hug:=utf_ge D _ (k+i) rfl;cases hu2:(utf D (k+i)).2 with
       | true =>
        have hgt:=utf_gt (j:=k+i) (by omega) hc hu2;rw [hu2,if_pos rfl] at hu;have HU2:=qqh hu2;have hle:=hug.2 (by omega);obtain ⟨p,hp⟩:∃ p,(utf D (k+i)).1=p:=⟨_,rfl⟩;rw [hp] at hgt hle hu;have HN:=hnext (p - (k+i)) (by rw [hu,show k+i+(p - (k+i))=p by omega]);have HP:=qqh hp;clear hu hu2 hp hug hc hnext h34 h92 h3';go_wp2_with fail
        refine (utf_c D A _ C k n c i _ (by exact HD.out) HV.out (by omega)).mono ?_;rintro e w1 ⟨rfl,rfl⟩;rw [HU2.out,HP.out];go_wp2_with fail
        go_round
        case rel => exact ⟨p - k,by omega,by omega,rfl,by have:=HN.out;rw [show i+(p - (k+i))=p - k by omega] at this;exact this⟩
        case measure => simp [intOf];omega
       | false =>
        rw [hu2,if_neg (by simp)] at hu;obtain rfl:R.bad=r:=hu.symm.trans HRi.out;have hlt9:=utf_false (j:=k+i) hu2;have HU2:=qqh hu2;have hge9:=hug.1;obtain ⟨p,hp⟩:∃ p,(utf D (k+i)).1=p:=⟨_,rfl⟩;rw [hp] at hlt9 hge9;have HP:=qqh hp;obtain ⟨asl2,hvs2,hrun2⟩:=VW.sub HV.out hC1 (p - k) (p - k+1) ((p - k:Nat):Int) (((p - k:Nat):Int)+1) rfl (by omega) (by omega) (by omega);obtain ⟨i2,hi2'⟩:∃ i2,p - k=i2:=⟨_,rfl⟩;rw [hi2'] at hrun2;have hi3:k+i2<D.n:=(by omega);have HI2:=qqh hi2';clear hu hu2 hp hug hc hvs2 hi2' hnext h34 h92 h3';go_wp2_with fail
        refine (utf_c D A _ C k n c i _ (by exact HD.out) HV.out (by omega)).mono ?_;rintro e w1 ⟨rfl,rfl⟩;rw [HU2.out,HP.out,HI2.out];go_wp2_with fail
        refine (newErr_c _ _ _ _ _ (by omega)).mono ?_;rintro e w1 ⟨⟨v,rfl,hE⟩,hk1⟩;go_wp2_with fail
        refine bodyPost_ret (results_tmp4 rfl _ _ _) rfl ?_;exact .inl ⟨⟨_,rfl,hE⟩,hk1⟩
    ·obtain rfl:i=n:=(by omega);obtain ⟨af,hvf,hrunf⟩:=VW.from_ HV.out hC1 i i rfl (by omega);obtain rfl:R.bad=r:=(by rw [<- HRi.out];exact (lin_stop (by omega)).symm);clear hvf;go_wp2_with fail
     refine (newErr_c _ _ _ _ _ (by omega)).mono ?_;rintro e w1 ⟨⟨v,rfl,hE⟩,hk1⟩;go_wp2_with fail
     refine bodyPost_ret (results_tmp4 rfl _ _ _) rfl ?_;exact .inl ⟨⟨_,rfl,hE⟩,hk1⟩
 ·obtain rfl:n=3:=by omega
  obtain ⟨af,hvf,hrunf⟩:=VW.from_ HV.out hC1 3 3 rfl (by omega);obtain rfl:cs=3:=by omega
  obtain rfl:R.bad=r:=by rw [<- HR1.out];exact (lin_stop (by omega)).symm
  clear hvf HNL HCS;go_enter Tryz.func94,Tryz.ntmps94;go_wp2_with fail
  refine wp_loop_rounds 1 ?_;rw [rounds_succ];go_wp2_with fail
  refine (newErr_c _ _ _ _ _ (by omega)).mono ?_;rintro e w1 ⟨⟨v,rfl,hE⟩,hk1⟩;go_wp2_with fail
  refine bodyPost_ret (results_tmp4 rfl _ _ _) rfl ?_;exact .inl ⟨⟨_,rfl,hE⟩,hk1⟩
theorem leafN (b x K:Nat) (l:List UInt8) (ks:List (List UInt8)) (h:K ≠ 8/\K ≠ 9):tNds b x (.mk K l [] ks)=[⟨kmap K,l,x,0⟩]:=by rw [tNds_mk,if_neg h.1,if_neg h.2]
theorem has_char (D:Doc) (k:Nat) (x:UInt8) (l:List UInt8) (h:hasB D k (x :: l)=true):D.c k=x.toNat:=by
 unfold hasB at h;rw [List.length_cons,Doc.sub_succ] at h;simp at h;have:=congrArg UInt8.toNat h.2.1;rw [Doc.toNat_ofNat] at this;exact this
def numNo (x:Nat):Prop:=¬ (48<=x/\x<=57)/\x ≠ 43/\x ≠ 45
theorem numP_nodig {D:Doc} {k:Nat} (h:numNo (D.c k)):numP D k=if hasB D k [105,110,102]=true\/hasB D k [110,97,110]=true then .good (2,D.sub k 3) (k+3) else .bad:=by
 unfold numNo at h;have h4:¬ 0<=twoRun D k 0 4:=by rw [twoRun,if_neg (by omega)];omega
 have h2:¬ 0<=twoRun D k 0 2:=by rw [twoRun,if_neg (by omega)];omega
 unfold numP;rw [if_neg (fun x => h4 x.1),if_neg (fun x => h2 x.1)];rw [show ([48,120]:List UInt8)=[UInt8.ofNat 48,UInt8.ofNat 120] from rfl,has_2 D k 48 120 (by omega) (by omega),qqf (by omega),if_neg (by simp),
  show ([48,111]:List UInt8)=[UInt8.ofNat 48,UInt8.ofNat 111] from rfl,has_2 D k 48 111 (by omega) (by omega),qqf (by omega),if_neg (by simp),
  show ([48,98]:List UInt8)=[UInt8.ofNat 48,UInt8.ofNat 98] from rfl,has_2 D k 48 98 (by omega) (by omega),qqf (by omega),if_neg (by simp)]
 have hs:sgnN D k=0:=by unfold sgnN;rw [if_neg (by omega)]
 unfold infN;rw [hs,Nat.add_zero,Nat.zero_add];split
 ·rfl
 ·unfold tenN;rw [Nat.add_zero];have hg:grp D 10 k=0:=by
   rw [grp,if_pos]
   apply dgN_none
   rw [dval_10i];omega
  rw [if_pos (.inl hg)]
theorem valP_eq (D:Doc) (d k:Nat):valP D (d+1) k =
  if three D 34 k\/three D 39 k then (lin D (D.c k) k).str
  else if D.c k=34\/D.c k=39 then (txt D (D.c k) k).str
  else if hasB D k [116,114,117,101]=true then .good (.mk 3 (D.sub k 4) [] []) (k+4)
  else if hasB D k [102,97,108,115,101]=true then .good (.mk 3 (D.sub k 5) [] []) (k+5)
  else if D.c k=91 then lstRun D (valP D d) (k+1) []
  else if D.c k=123 then tabP D (valP D d) (k+1)
  else (numP D k).leaf:=by rw [valP]
theorem valP_num {D:Doc} {d k:Nat} (h:D.c k ≠ 34/\D.c k ≠ 39/\D.c k ≠ 116/\D.c k ≠ 102/\D.c k ≠ 91/\D.c k ≠ 123):valP D (d+1) k=(numP D k).leaf:=by
 rw [valP_eq,if_neg (by unfold three;omega),if_neg (by omega),if_neg (fun x => h.2.2.1 ((has_char D k 116 [114,117,101] x).trans rfl)),if_neg (fun x => h.2.2.2.1 ((has_char D k 102 [97,108,115,101] x).trans rfl)),if_neg h.2.2.2.2.1,if_neg h.2.2.2.2.2]
section
variable {D:Doc} {A:Option Addr} {C bp:Nat} {w w':World} {nd0 left nd er:Value} {ns:List Nd} {nst:Nat}
theorem PI.setNst {N:Nat} {xs:List Value} (h:PI D A C bp w left nd N xs er nst) (x:Int) (m:Nat) (hx:x=(m:Int)):PI D A C bp (w.setCell ⟨bp,5,none⟩ (.int .i64 x)) left nd N xs er m:=by
 subst hx;refine ⟨h.blk.putE 5 _ rfl,h.doc.kp (S:=Only bp) ((Kp.refl _ _).putOnly _) (fun a ha e => (h.ltA a ha).1 e),own_kp h.own ((Kp.refl (Only bp) w).putOnly (i:=5) _) (fun g hg e => by have:=(h.own.lt g hg).1;have e:g=bp:=e;omega),h.one,fun a ha => ?_⟩;have:=h.ltA a ha;exact ⟨this.1,this.2.1,by simpa using this.2.2⟩
theorem PN.setNst (h:PN D A C bp w left nd ns er nst) (x:Int) (m:Nat) (hx:x=(m:Int)):PN D A C bp (w.setCell ⟨bp,5,none⟩ (.int .i64 x)) left nd ns er m:=by
 obtain ⟨xs,h1,h2⟩:=h;exact ⟨xs,h1.setNst x m hx,NRep.step (S:=Only bp) ((Kp.refl _ _).putOnly _) (fun b hb _ _ e => by have e:b=bp:=e;omega) (fun a ha e => (h1.ltA a ha).1 e) (Fresh.refl _ _) _ _ h2⟩
theorem ErrH.out {nst:Nat} {e:Ending} (h:ErrH D A C bp left er nst w e w'):∃ b nd N xs,e=.returned (.tuple #[.int .i32 0,.slice none 0 0,.iface 105 (.pointer (some ⟨b,0,none⟩))])/\Err w' (bp+1) (.iface 105 (.pointer (some ⟨b,0,none⟩)))/\PI D A C bp w' left nd N xs er nst/\KB bp w w':=by
 obtain ⟨v,nd,N,xs,e1,hE,hP,hK⟩:=h;obtain ⟨b,rfl⟩:=Err.ptr hE;exact ⟨b,nd,N,xs,e1,hE,hP,hK⟩
theorem LfPost.vl {k K p:Nat} {e:Ending} (h:LfPost D A C bp w nd0 left er ns nst k (kmap K) p e w') (hK:K ≠ 8/\K ≠ 9):VlPost D A C bp w nd0 left er ns nst (.good (.mk K (D.sub k (p - k)) [] []) p) e w':=by
 obtain ⟨a,n,c,nd,he,hv,hp,hf⟩:=h;exact .inl ⟨a,n,c,nd,he,hv,by rw [leafN _ _ _ _ _ hK];exact hp,hf⟩
end
theorem val_t (D:Doc) (d:Nat) (hval:ValCI D d) (A a:Option Addr) (C bp k n c:Nat) (w:World) (left nd er:Value) (ns:List Nd) (nst:Nat) (hP:PN D A C bp w left nd ns er nst) (hB:ns.length+4 * (D.n - k)<=90000000) (hv:VW D A C k a n c)
  (hd:nst+(d+1)<=100) (hno:valP D (d+1) k ≠ .opn) (hq:D.c k=116) :
  Calls Tryz.prog 91 #[.pointer (some ⟨bp,0,none⟩),.slice a n c] w (VlPost D A C bp w nd left er ns nst (valP D (d+1) k)):=by
 have hs:=D.small;have hC1:=hP.doc.1;have hC2:=hP.doc.2.1;have hlt:=hP.ltB;have hln:=qql hv.len;have hln':=qql hv.len.symm;have hcp:=qql hv.cap;have hcp':=qql hv.cap.symm;have hk:k<D.n:=Doc.in_of (by omega);obtain ⟨bd,q,rfl,hb⟩:=hv.bytes hP.doc hk;have b0:=hb 0 (by omega);simp only [Nat.add_zero] at b0;have HB:=qqh hb;have e34:((D.c k:Int) == 34)=false:=qqn (by omega);have e39:((D.c k:Int) == 39)=false:=qqn (by omega);have e116:((D.c k:Int) == 116)=true:=by rw [beq_iff_eq];omega
 have HP:=qqh hP;have HV:=qqh hv;by_cases hh:hasB D k [116,114,117,101]=true
 ·have HRV:Hid (valP D (d+1) k=.good (.mk 3 (D.sub k 4) [] []) (k+4)):=by show _=_;exact (by rw [valP_eq,if_neg (by unfold three;omega),if_neg (by omega),if_pos hh])
  have HH:=qqh hh;clear hP hv hno hb hq hval hh;go_enter Tryz.func91,Tryz.ntmps91;go_wp2_with fail
  refine (pkw_y D A _ C bp k n c 9 [116,114,117,101] _ left nd er ns nst (by exact HP.out) (by omega) HV.out hk (by decide) (by decide) HH.out).mono ?_;rintro e w1 hpost;have HVl:=qqh (LfPost.vl (K:=3) hpost (by omega));obtain ⟨a1,n1,c1,nd1,rfl,hvw,hP1,hF1⟩:=hpost;clear hvw hP1 hF1;go_wp2_with fail
  go_ret3
  rw [HRV.out];have h:=HVl.out;simp only [List.length_cons,List.length_nil,Nat.zero_add,Nat.add_sub_cancel_left] at h;exact h
 ·have hh':¬ hasB D k [116,114,117,101]=true:=hh;have HRV:Hid (valP D (d+1) k=.bad):=by show _=_;exact (by rw [valP_eq,if_neg (by unfold three;omega),if_neg (by omega),if_neg hh',if_neg (fun x => by have:=has_char D k _ _ x;have e:(102:UInt8).toNat=102:=rfl;omega),if_neg (by omega),if_neg (by omega),numP_nodig (by unfold numNo;omega),if_neg];rfl;rintro (x | x) <;> (have:=has_char D k _ _ x;have e1:(105:UInt8).toNat=105:=rfl;have e2:(110:UInt8).toNat=110:=rfl;omega))
  have hf:hasB D k [116,114,117,101]=false:=by simpa using hh
  have HH:=qqh hf;clear hP hv hno hb hq hval hh hh' hf;go_enter Tryz.func91,Tryz.ntmps91;go_wp2_with fail
  refine (pkw_n D A _ C bp k n c 9 [116,114,117,101] _ left nd er ns nst (by exact HP.out) HV.out hk (by decide) (by decide) HH.out).mono ?_;intro e w1 herr;have HErr:=qqh herr;clear herr;obtain ⟨bb,ndx,Nx,xsx,rfl,hE,hPI,_⟩:=ErrH.out HErr.out;have HE:=qqh hE;have HPI:=qqh hPI;clear hE hPI;go_wp2_with fail
  go_ret3
  rw [HRV.out];exact HErr.out
theorem val_f (D:Doc) (d:Nat) (hval:ValCI D d) (A a:Option Addr) (C bp k n c:Nat) (w:World) (left nd er:Value) (ns:List Nd) (nst:Nat) (hP:PN D A C bp w left nd ns er nst) (hB:ns.length+4 * (D.n - k)<=90000000) (hv:VW D A C k a n c)
  (hd:nst+(d+1)<=100) (hno:valP D (d+1) k ≠ .opn) (hq:D.c k=102) :
  Calls Tryz.prog 91 #[.pointer (some ⟨bp,0,none⟩),.slice a n c] w (VlPost D A C bp w nd left er ns nst (valP D (d+1) k)):=by
 have hs:=D.small;have hC1:=hP.doc.1;have hC2:=hP.doc.2.1;have hlt:=hP.ltB;have hln:=qql hv.len;have hln':=qql hv.len.symm;have hcp:=qql hv.cap;have hcp':=qql hv.cap.symm;have hk:k<D.n:=Doc.in_of (by omega);obtain ⟨bd,q,rfl,hb⟩:=hv.bytes hP.doc hk;have b0:=hb 0 (by omega);simp only [Nat.add_zero] at b0;have HB:=qqh hb;have e34:((D.c k:Int) == 34)=false:=qqn (by omega);have e39:((D.c k:Int) == 39)=false:=qqn (by omega);have e116:((D.c k:Int) == 116)=false:=qqn (by omega);have e102:((D.c k:Int) == 102)=true:=by rw [beq_iff_eq];omega
 have HP:=qqh hP;have HV:=qqh hv;by_cases hh:hasB D k [102,97,108,115,101]=true
 ·have HRV:Hid (valP D (d+1) k=.good (.mk 3 (D.sub k 5) [] []) (k+5)):=by show _=_;exact (by rw [valP_eq,if_neg (by unfold three;omega),if_neg (by omega),if_neg (fun x => by have:=has_char D k _ _ x;have e:(116:UInt8).toNat=116:=rfl;omega),if_pos hh])
  have HH:=qqh hh;clear hP hv hno hb hq hval hh;go_enter Tryz.func91,Tryz.ntmps91;go_wp2_with fail
  refine (pkw_y D A _ C bp k n c 9 [102,97,108,115,101] _ left nd er ns nst (by exact HP.out) (by omega) HV.out hk (by decide) (by decide) HH.out).mono ?_;rintro e w1 hpost;have HVl:=qqh (LfPost.vl (K:=3) hpost (by omega));obtain ⟨a1,n1,c1,nd1,rfl,hvw,hP1,hF1⟩:=hpost;clear hvw hP1 hF1;go_wp2_with fail
  go_ret3
  rw [HRV.out];have h:=HVl.out;simp only [List.length_cons,List.length_nil,Nat.zero_add,Nat.add_sub_cancel_left] at h;exact h
 ·have hh':¬ hasB D k [102,97,108,115,101]=true:=hh;have HRV:Hid (valP D (d+1) k=.bad):=by show _=_;exact (by rw [valP_eq,if_neg (by unfold three;omega),if_neg (by omega),if_neg (fun x => by have:=has_char D k _ _ x;have e:(116:UInt8).toNat=116:=rfl;omega),if_neg hh',if_neg (by omega),if_neg (by omega),numP_nodig (by unfold numNo;omega),if_neg];rfl;rintro (x | x) <;> (have:=has_char D k _ _ x;have e1:(105:UInt8).toNat=105:=rfl;have e2:(110:UInt8).toNat=110:=rfl;omega))
  have hf:hasB D k [102,97,108,115,101]=false:=by simpa using hh
  have HH:=qqh hf;clear hP hv hno hb hq hval hh hh' hf;go_enter Tryz.func91,Tryz.ntmps91;go_wp2_with fail
  refine (pkw_n D A _ C bp k n c 9 [102,97,108,115,101] _ left nd er ns nst (by exact HP.out) HV.out hk (by decide) (by decide) HH.out).mono ?_;intro e w1 herr;have HErr:=qqh herr;clear herr;obtain ⟨bb,ndx,Nx,xsx,rfl,hE,hPI,_⟩:=ErrH.out HErr.out;have HE:=qqh hE;have HPI:=qqh hPI;clear hE hPI;go_wp2_with fail
  go_ret3
  rw [HRV.out];exact HErr.out
theorem val_i (D:Doc) (d:Nat) (hval:ValCI D d) (A a:Option Addr) (C bp k n c:Nat) (w:World) (left nd er:Value) (ns:List Nd) (nst:Nat) (hP:PN D A C bp w left nd ns er nst) (hB:ns.length+4 * (D.n - k)<=90000000) (hv:VW D A C k a n c)
  (hd:nst+(d+1)<=100) (hno:valP D (d+1) k ≠ .opn) (hq:D.c k=105) :
  Calls Tryz.prog 91 #[.pointer (some ⟨bp,0,none⟩),.slice a n c] w (VlPost D A C bp w nd left er ns nst (valP D (d+1) k)):=by
 have hs:=D.small;have hC1:=hP.doc.1;have hC2:=hP.doc.2.1;have hlt:=hP.ltB;have hln:=qql hv.len;have hln':=qql hv.len.symm;have hcp:=qql hv.cap;have hcp':=qql hv.cap.symm;have hk:k<D.n:=Doc.in_of (by omega);obtain ⟨bd,q,rfl,hb⟩:=hv.bytes hP.doc hk;have b0:=hb 0 (by omega);simp only [Nat.add_zero] at b0;have HB:=qqh hb;have e34:((D.c k:Int) == 34)=false:=qqn (by omega);have e39:((D.c k:Int) == 39)=false:=qqn (by omega);have e116:((D.c k:Int) == 116)=false:=qqn (by omega);have e102:((D.c k:Int) == 102)=false:=qqn (by omega);have e105:((D.c k:Int) == 105)=true:=by rw [beq_iff_eq];omega
 have HP:=qqh hP;have HV:=qqh hv;by_cases hh:hasB D k [105,110,102]=true
 ·have HRV:Hid (valP D (d+1) k=.good (.mk 2 (D.sub k 3) [] []) (k+3)):=by show _=_;exact (by rw [valP_num (by omega),numP_nodig (by unfold numNo;omega),if_pos (.inl hh)];rfl)
  have HH:=qqh hh;clear hP hv hno hb hq hval hh;go_enter Tryz.func91,Tryz.ntmps91;go_wp2_with fail
  refine (pkw_y D A _ C bp k n c 10 [105,110,102] _ left nd er ns nst (by exact HP.out) (by omega) HV.out hk (by decide) (by decide) HH.out).mono ?_;rintro e w1 hpost;have HVl:=qqh (LfPost.vl (K:=2) hpost (by omega));obtain ⟨a1,n1,c1,nd1,rfl,hvw,hP1,hF1⟩:=hpost;clear hvw hP1 hF1;go_wp2_with fail
  go_ret3
  rw [HRV.out];have h:=HVl.out;simp only [List.length_cons,List.length_nil,Nat.zero_add,Nat.add_sub_cancel_left] at h;exact h
 ·have hh':¬ hasB D k [105,110,102]=true:=hh;have HRV:Hid (valP D (d+1) k=.bad):=by show _=_;exact (by rw [valP_num (by omega),numP_nodig (by unfold numNo;omega),if_neg];rfl;rintro (x | x) <;> first | exact hh' x | (have:=has_char D k _ _ x;have e1:(110:UInt8).toNat=110:=rfl;omega))
  have hf:hasB D k [105,110,102]=false:=by simpa using hh
  have HH:=qqh hf;clear hP hv hno hb hq hval hh hh' hf;go_enter Tryz.func91,Tryz.ntmps91;go_wp2_with fail
  refine (pkw_n D A _ C bp k n c 10 [105,110,102] _ left nd er ns nst (by exact HP.out) HV.out hk (by decide) (by decide) HH.out).mono ?_;intro e w1 herr;have HErr:=qqh herr;clear herr;obtain ⟨bb,ndx,Nx,xsx,rfl,hE,hPI,_⟩:=ErrH.out HErr.out;have HE:=qqh hE;have HPI:=qqh hPI;clear hE hPI;go_wp2_with fail
  go_ret3
  rw [HRV.out];exact HErr.out
theorem val_n (D:Doc) (d:Nat) (hval:ValCI D d) (A a:Option Addr) (C bp k n c:Nat) (w:World) (left nd er:Value) (ns:List Nd) (nst:Nat) (hP:PN D A C bp w left nd ns er nst) (hB:ns.length+4 * (D.n - k)<=90000000) (hv:VW D A C k a n c)
  (hd:nst+(d+1)<=100) (hno:valP D (d+1) k ≠ .opn) (hq:D.c k=110) :
  Calls Tryz.prog 91 #[.pointer (some ⟨bp,0,none⟩),.slice a n c] w (VlPost D A C bp w nd left er ns nst (valP D (d+1) k)):=by
 have hs:=D.small;have hC1:=hP.doc.1;have hC2:=hP.doc.2.1;have hlt:=hP.ltB;have hln:=qql hv.len;have hln':=qql hv.len.symm;have hcp:=qql hv.cap;have hcp':=qql hv.cap.symm;have hk:k<D.n:=Doc.in_of (by omega);obtain ⟨bd,q,rfl,hb⟩:=hv.bytes hP.doc hk;have b0:=hb 0 (by omega);simp only [Nat.add_zero] at b0;have HB:=qqh hb;have e34:((D.c k:Int) == 34)=false:=qqn (by omega);have e39:((D.c k:Int) == 39)=false:=qqn (by omega);have e116:((D.c k:Int) == 116)=false:=qqn (by omega);have e102:((D.c k:Int) == 102)=false:=qqn (by omega);have e105:((D.c k:Int) == 105)=false:=qqn (by omega);have e110:((D.c k:Int) == 110)=true:=by rw [beq_iff_eq];omega
 have HP:=qqh hP;have HV:=qqh hv;by_cases hh:hasB D k [110,97,110]=true
 ·have HRV:Hid (valP D (d+1) k=.good (.mk 2 (D.sub k 3) [] []) (k+3)):=by show _=_;exact (by rw [valP_num (by omega),numP_nodig (by unfold numNo;omega),if_pos (.inr hh)];rfl)
  have HH:=qqh hh;clear hP hv hno hb hq hval hh;go_enter Tryz.func91,Tryz.ntmps91;go_wp2_with fail
  refine (pkw_y D A _ C bp k n c 10 [110,97,110] _ left nd er ns nst (by exact HP.out) (by omega) HV.out hk (by decide) (by decide) HH.out).mono ?_;rintro e w1 hpost;have HVl:=qqh (LfPost.vl (K:=2) hpost (by omega));obtain ⟨a1,n1,c1,nd1,rfl,hvw,hP1,hF1⟩:=hpost;clear hvw hP1 hF1;go_wp2_with fail
  go_ret3
  rw [HRV.out];have h:=HVl.out;simp only [List.length_cons,List.length_nil,Nat.zero_add,Nat.add_sub_cancel_left] at h;exact h
 ·have hh':¬ hasB D k [110,97,110]=true:=hh;have HRV:Hid (valP D (d+1) k=.bad):=by show _=_;exact (by rw [valP_num (by omega),numP_nodig (by unfold numNo;omega),if_neg];rfl;rintro (x | x) <;> first | exact hh' x | (have:=has_char D k _ _ x;have e1:(105:UInt8).toNat=105:=rfl;omega))
  have hf:hasB D k [110,97,110]=false:=by simpa using hh
  have HH:=qqh hf;clear hP hv hno hb hq hval hh hh' hf;go_enter Tryz.func91,Tryz.ntmps91;go_wp2_with fail
  refine (pkw_n D A _ C bp k n c 10 [110,97,110] _ left nd er ns nst (by exact HP.out) HV.out hk (by decide) (by decide) HH.out).mono ?_;intro e w1 herr;have HErr:=qqh herr;clear herr;obtain ⟨bb,ndx,Nx,xsx,rfl,hE,hPI,_⟩:=ErrH.out HErr.out;have HE:=qqh hE;have HPI:=qqh hPI;clear hE hPI;go_wp2_with fail
  go_ret3
  rw [HRV.out];exact HErr.out
theorem val_arr (D:Doc) (d:Nat) (hval:ValCI D d) (A a:Option Addr) (C bp k n c:Nat) (w:World) (left nd er:Value) (ns:List Nd) (nst:Nat) (hP:PN D A C bp w left nd ns er nst) (hB:ns.length+4 * (D.n - k)<=90000000) (hv:VW D A C k a n c)
  (hd:nst+(d+1)<=100) (hno:valP D (d+1) k ≠ .opn) (hq:D.c k=91) :
  Calls Tryz.prog 91 #[.pointer (some ⟨bp,0,none⟩),.slice a n c] w (VlPost D A C bp w nd left er ns nst (valP D (d+1) k)):=by
 have hs:=D.small;have hC1:=hP.doc.1;have hC2:=hP.doc.2.1;have hlt:=hP.ltB;have hln:=qql hv.len;have hln':=qql hv.len.symm;have hcp:=qql hv.cap;have hcp':=qql hv.cap.symm;have hk:k<D.n:=Doc.in_of (by omega);have hrv:valP D (d+1) k=lstRun D (valP D d) (k+1) []:=by rw [valP_eq,if_neg (by unfold three;omega),if_neg (by omega),if_neg (fun x => by have:=has_char D k _ _ x;have e:(116:UInt8).toNat=116:=rfl;omega),if_neg (fun x => by have:=has_char D k _ _ x;have e:(102:UInt8).toNat=102:=rfl;omega),if_pos hq]
 rw [hrv] at hno ⊢;obtain ⟨bd,q,rfl,hb⟩:=hv.bytes hP.doc hk;have b0:=hb 0 (by omega);simp only [Nat.add_zero] at b0;have HB:=qqh hb;have e34:((D.c k:Int) == 34)=false:=qqn (by omega);have e39:((D.c k:Int) == 39)=false:=qqn (by omega);have e116:((D.c k:Int) == 116)=false:=qqn (by omega);have e102:((D.c k:Int) == 102)=false:=qqn (by omega);have e105:((D.c k:Int) == 105)=false:=qqn (by omega);have e110:((D.c k:Int) == 110)=false:=qqn (by omega);have e91:((D.c k:Int) == 91)=true:=by rw [beq_iff_eq];omega
 have HP:=qqh hP;have HV:=qqh hv;have HNO:=qqh hno;have HVAL:=qqh hval;have c5:=hP.choose_spec.1.blk.cell 5 rfl;have f5:=hP.choose_spec.1.blk.free 5;have en:decide (10000<=(nst:Int))=false:=qqf (by omega);have hP1:=qqh (hP.setNst ((nst:Int)+1) (nst+1) (by omega));obtain ⟨r,hr⟩:∃ r,lstRun D (valP D d) (k+1) []=r:=⟨_,rfl⟩;have HR:=qqh hr;rw [hr];clear hP hv hno hb hq hval hrv hr;go_enter Tryz.func91,Tryz.ntmps91;go_wp2_with fail
 refine (arr_c D d HVAL.out A _ C bp k n c _ left nd er ns (nst+1) (by exact hP1.out) hB HV.out (by omega) hk HNO.out).mono ?_;intro e w1 hpost;rw [HR.out] at hpost;have HPost:=qqh hpost;clear hpost c5 f5;have hcase:(∃ t p,r=.good t p/\OkH D A C bp (w.setCell ⟨bp,5,none⟩ (.int .i64 ((nst:Int)+1))) nd left er ns.length (ns++tNds ns.length 0 t) (nst+1) p e w1)\/(Hid (ErrH D A C bp left er (nst+1) (w.setCell ⟨bp,5,none⟩ (.int .i64 ((nst:Int)+1))) e w1)/\Hid (∀ w2,ErrH D A C bp left er nst w e w2->VlPost D A C bp w nd left er ns nst r e w2)):=by
  cases r with
  | good t p =>
   rcases HPost.out with h | ⟨h1,h2⟩
   ·exact .inl ⟨t,p,rfl,h⟩
   ·exact .inr ⟨h1,fun w2 h => .inr ⟨h,h2⟩⟩
  | bad => exact .inr ⟨HPost.out,fun w2 h => h⟩
  | opn => exact absurd HR.out HNO.out
 rcases hcase with ⟨t,p,rfl,a1,n1,c1,nd1,rfl,hvw,hP2,hF2⟩ | ⟨HErr,HOk⟩
 ·have HVW:=qqh hvw;have HP2:=qqh hP2;have HF2:=qqh ((Fr.self (bp:=bp) (w:=w) (nd:=nd) (i:=5) (.int .i64 ((nst:Int)+1))).trans hF2);have c5:=hP2.choose_spec.1.blk.cell 5 rfl;have f5:=hP2.choose_spec.1.blk.free 5;clear hvw hP2 hF2 HPost;go_wp2_with fail
  go_ret3
  have h:=HP2.out.setNst (nst:Int) nst rfl;exact .inl ⟨_,_,_,_,rfl,HVW.out,h,HF2.out.trans (Fr.self _)⟩
 ·obtain ⟨bb,ndx,Nx,xsx,rfl,hE,hPI,hKB⟩:=ErrH.out HErr.out;have HKB:=qqh hKB;clear hKB;have HE:=qqh hE;have HPI:=qqh hPI;have c5:=hPI.blk.cell 5 rfl;have f5:=hPI.blk.free 5;have hbb:bb ≠ bp:=by
   obtain ⟨h,a,n,c,s,e1,h1,_⟩:=hE;injection e1 with _ e1;injection e1 with e1;injection e1 with e1;injection e1 with e1;omega
  clear hE hPI;go_wp2_with fail
  go_ret3
  refine HOk.out _ ⟨_,_,_,_,rfl,?_,HPI.out.setNst (nst:Int) nst rfl,(KB.trans (Kp.setCell (Kp.refl _ w) (.inl (qqr bp)) _) HKB.out).trans (Kp.setCell (Kp.refl _ w1) (.inl (qqr bp)) _)⟩;obtain ⟨h,a,n,c,s,e1,h1,h2,h3⟩:=HE.out;refine ⟨h,a,n,c,s,e1,h1,h2,h3.other (a:=⟨bp,5,none⟩) ?_ _⟩;show h ≠ bp;omega
theorem val_tab (D:Doc) (d:Nat) (hval:ValCI D d) (A a:Option Addr) (C bp k n c:Nat) (w:World) (left nd er:Value) (ns:List Nd) (nst:Nat) (hP:PN D A C bp w left nd ns er nst) (hB:ns.length+4 * (D.n - k)<=90000000) (hv:VW D A C k a n c)
  (hd:nst+(d+1)<=100) (hno:valP D (d+1) k ≠ .opn) (hq:D.c k=123) :
  Calls Tryz.prog 91 #[.pointer (some ⟨bp,0,none⟩),.slice a n c] w (VlPost D A C bp w nd left er ns nst (valP D (d+1) k)):=by
 have hs:=D.small;have hC1:=hP.doc.1;have hC2:=hP.doc.2.1;have hlt:=hP.ltB;have hln:=qql hv.len;have hln':=qql hv.len.symm;have hcp:=qql hv.cap;have hcp':=qql hv.cap.symm;have hk:k<D.n:=Doc.in_of (by omega);have hrv:valP D (d+1) k=tabP D (valP D d) (k+1):=by rw [valP_eq,if_neg (by unfold three;omega),if_neg (by omega),if_neg (fun x => by have:=has_char D k _ _ x;have e:(116:UInt8).toNat=116:=rfl;omega),if_neg (fun x => by have:=has_char D k _ _ x;have e:(102:UInt8).toNat=102:=rfl;omega),if_neg (by omega),if_pos hq]
 rw [hrv] at hno ⊢;obtain ⟨bd,q,rfl,hb⟩:=hv.bytes hP.doc hk;have b0:=hb 0 (by omega);simp only [Nat.add_zero] at b0;have HB:=qqh hb;have e34:((D.c k:Int) == 34)=false:=qqn (by omega);have e39:((D.c k:Int) == 39)=false:=qqn (by omega);have e116:((D.c k:Int) == 116)=false:=qqn (by omega);have e102:((D.c k:Int) == 102)=false:=qqn (by omega);have e105:((D.c k:Int) == 105)=false:=qqn (by omega);have e110:((D.c k:Int) == 110)=false:=qqn (by omega);have e91:((D.c k:Int) == 91)=false:=qqn (by omega);have e123:((D.c k:Int) == 123)=true:=by rw [beq_iff_eq];omega
 have HP:=qqh hP;have HV:=qqh hv;have HNO:=qqh hno;have HVAL:=qqh hval;have c5:=hP.choose_spec.1.blk.cell 5 rfl;have f5:=hP.choose_spec.1.blk.free 5;have en:decide (10000<=(nst:Int))=false:=qqf (by omega);have hP1:=qqh (hP.setNst ((nst:Int)+1) (nst+1) (by omega));obtain ⟨r,hr⟩:∃ r,tabP D (valP D d) (k+1)=r:=⟨_,rfl⟩;have HR:=qqh hr;rw [hr];clear hP hv hno hb hq hval hrv hr;go_enter Tryz.func91,Tryz.ntmps91;go_wp2_with fail
 refine (tab_c D d HVAL.out A _ C bp k n c _ left nd er ns (nst+1) (by exact hP1.out) hB HV.out (by omega) hk HNO.out).mono ?_;intro e w1 hpost;rw [HR.out] at hpost;have HPost:=qqh hpost;clear hpost c5 f5;have hcase:(∃ t p,r=.good t p/\OkH D A C bp (w.setCell ⟨bp,5,none⟩ (.int .i64 ((nst:Int)+1))) nd left er ns.length (ns++tNds ns.length 0 t) (nst+1) p e w1)\/(Hid (ErrH D A C bp left er (nst+1) (w.setCell ⟨bp,5,none⟩ (.int .i64 ((nst:Int)+1))) e w1)/\Hid (∀ w2,ErrH D A C bp left er nst w e w2->VlPost D A C bp w nd left er ns nst r e w2)):=by
  cases r with
  | good t p =>
   rcases HPost.out with h | ⟨h1,h2⟩
   ·exact .inl ⟨t,p,rfl,h⟩
   ·exact .inr ⟨h1,fun w2 h => .inr ⟨h,h2⟩⟩
  | bad => exact .inr ⟨HPost.out,fun w2 h => h⟩
  | opn => exact absurd HR.out HNO.out
 rcases hcase with ⟨t,p,rfl,a1,n1,c1,nd1,rfl,hvw,hP2,hF2⟩ | ⟨HErr,HOk⟩
 ·have HVW:=qqh hvw;have HP2:=qqh hP2;have HF2:=qqh ((Fr.self (bp:=bp) (w:=w) (nd:=nd) (i:=5) (.int .i64 ((nst:Int)+1))).trans hF2);have c5:=hP2.choose_spec.1.blk.cell 5 rfl;have f5:=hP2.choose_spec.1.blk.free 5;clear hvw hP2 hF2 HPost;go_wp2_with fail
  go_ret3
  have h:=HP2.out.setNst (nst:Int) nst rfl;exact .inl ⟨_,_,_,_,rfl,HVW.out,h,HF2.out.trans (Fr.self _)⟩
 ·obtain ⟨bb,ndx,Nx,xsx,rfl,hE,hPI,hKB⟩:=ErrH.out HErr.out;have HKB:=qqh hKB;clear hKB;have HE:=qqh hE;have HPI:=qqh hPI;have c5:=hPI.blk.cell 5 rfl;have f5:=hPI.blk.free 5;have hbb:bb ≠ bp:=by
   obtain ⟨h,a,n,c,s,e1,h1,_⟩:=hE;injection e1 with _ e1;injection e1 with e1;injection e1 with e1;injection e1 with e1;omega
  clear hE hPI;go_wp2_with fail
  go_ret3
  refine HOk.out _ ⟨_,_,_,_,rfl,?_,HPI.out.setNst (nst:Int) nst rfl,(KB.trans (Kp.setCell (Kp.refl _ w) (.inl (qqr bp)) _) HKB.out).trans (Kp.setCell (Kp.refl _ w1) (.inl (qqr bp)) _)⟩;obtain ⟨h,a,n,c,s,e1,h1,h2,h3⟩:=HE.out;refine ⟨h,a,n,c,s,e1,h1,h2,h3.other (a:=⟨bp,5,none⟩) ?_ _⟩;show h ≠ bp;omega
theorem val_other (D:Doc) (d:Nat) (hval:ValCI D d) (A a:Option Addr) (C bp k n c:Nat) (w:World) (left nd er:Value) (ns:List Nd) (nst:Nat) (hP:PN D A C bp w left nd ns er nst) (hB:ns.length+4 * (D.n - k)<=90000000) (hv:VW D A C k a n c)
  (hd:nst+(d+1)<=100) (hno:valP D (d+1) k ≠ .opn) (hq:(D.c k<48\/57<D.c k)/\D.c k ≠ 34/\D.c k ≠ 39/\D.c k ≠ 116/\D.c k ≠ 102/\D.c k ≠ 105/\D.c k ≠ 110/\D.c k ≠ 91/\D.c k ≠ 123/\D.c k ≠ 43/\D.c k ≠ 45) :
  Calls Tryz.prog 91 #[.pointer (some ⟨bp,0,none⟩),.slice a n c] w (VlPost D A C bp w nd left er ns nst (valP D (d+1) k)):=by
 have hs:=D.small;have hC1:=hP.doc.1;have hC2:=hP.doc.2.1;have hlt:=hP.ltB;have hln:=qql hv.len;have hln':=qql hv.len.symm;have hcp:=qql hv.cap;have hcp':=qql hv.cap.symm;have hrv:valP D (d+1) k=.bad:=by
  rw [valP_num (by omega),numP_nodig (by unfold numNo;omega),if_neg];rfl;rintro (x | x) <;> (have:=has_char D k _ _ x;have e1:(105:UInt8).toNat=105:=rfl;have e2:(110:UInt8).toNat=110:=rfl;omega)
 rw [hrv];have HP:=qqh hP;have HV:=qqh hv;rcases Nat.eq_zero_or_pos n with h0 | h0
 ·obtain rfl:=h0;clear hP hv hno hval hrv hq;go_enter Tryz.func91,Tryz.ntmps91;go_wp2_with fail
  refine (newErr_c _ _ _ _ _ (by omega)).mono ?_;rintro e w1 ⟨⟨v,rfl,hE⟩,hk1⟩;go_wp2_with fail
  go_ret3
  exact PN.errH HP.out hk1 hE hlt (Kp.refl _ _)
 ·have hk:k<D.n:=by omega
  obtain ⟨bd,q,rfl,hb⟩:=hv.bytes hP.doc hk;have b0:=hb 0 (by omega);simp only [Nat.add_zero] at b0;have HB:=qqh hb;have e34:((D.c k:Int) == 34)=false:=qqn (by omega);have e39:((D.c k:Int) == 39)=false:=qqn (by omega);have e116:((D.c k:Int) == 116)=false:=qqn (by omega);have e102:((D.c k:Int) == 102)=false:=qqn (by omega);have e105:((D.c k:Int) == 105)=false:=qqn (by omega);have e110:((D.c k:Int) == 110)=false:=qqn (by omega);have e91:((D.c k:Int) == 91)=false:=qqn (by omega);have e123:((D.c k:Int) == 123)=false:=qqn (by omega);have e43:((D.c k:Int) == 43)=false:=qqn (by omega);have e45:((D.c k:Int) == 45)=false:=qqn (by omega);have hrun:=upto_ (some ⟨bd,q,none⟩) n c 1 1 rfl (by omega);rcases qqg (D.c k) 48 with h48 | h48
  ·have g1:decide (48<=(D.c k:Int))=false:=qqf (by omega);clear hP hv hno hb hval hrv hq h48;go_enter Tryz.func91,Tryz.ntmps91;go_wp2_with fail
   refine (newErr_c _ _ _ _ _ (by omega)).mono ?_;rintro e w1 ⟨⟨v,rfl,hE⟩,hk1⟩;go_wp2_with fail
   go_ret3
   exact PN.errH HP.out hk1 hE hlt (Kp.refl _ _)
  ·have g1:decide (48<=(D.c k:Int))=true:=qqt (by omega);have g2:decide ((D.c k:Int)<=57)=false:=qqf (by omega);clear hP hv hno hb hval hrv hq h48;go_enter Tryz.func91,Tryz.ntmps91;go_wp2_with fail
   refine (newErr_c _ _ _ _ _ (by omega)).mono ?_;rintro e w1 ⟨⟨v,rfl,hE⟩,hk1⟩;go_wp2_with fail
   go_ret3
   exact PN.errH HP.out hk1 hE hlt (Kp.refl _ _)
theorem val_plus (D:Doc) (d:Nat) (hval:ValCI D d) (A a:Option Addr) (C bp k n c:Nat) (w:World) (left nd er:Value) (ns:List Nd) (nst:Nat) (hP:PN D A C bp w left nd ns er nst) (hB:ns.length+4 * (D.n - k)<=90000000) (hv:VW D A C k a n c)
  (hd:nst+(d+1)<=100) (hno:valP D (d+1) k ≠ .opn) (hq:D.c k=43) :
  Calls Tryz.prog 91 #[.pointer (some ⟨bp,0,none⟩),.slice a n c] w (VlPost D A C bp w nd left er ns nst (valP D (d+1) k)):=by
 have hs:=D.small;have hC1:=hP.doc.1;have hC2:=hP.doc.2.1;have hlt:=hP.ltB;have hln:=qql hv.len;have hln':=qql hv.len.symm;have hcp:=qql hv.cap;have hcp':=qql hv.cap.symm;have hlaw:NumL D k (numP D k) (scN D k):=numP_law D k (fun x => by have:=x.1;rw [twoRun,if_neg (by omega)] at this;omega) (fun x => by have:=x.1;rw [twoRun,if_neg (by omega)] at this;omega);have hk:k<D.n:=Doc.in_of (by omega);have hrv:valP D (d+1) k=(numP D k).leaf:=valP_num (by omega);have hnn:numP D k ≠ .opn:=fun e => hno (by rw [hrv,e];rfl)
 have HRV:=qqh hrv;have HNN:=qqh hnn;have HLAW:=qqh hlaw;obtain ⟨bd,q,rfl,hb⟩:=hv.bytes hP.doc hk;have b0:=hb 0 (by omega);simp only [Nat.add_zero] at b0;have HB:=qqh hb;have HP:=qqh hP;have HV:=qqh hv;have e34:((D.c k:Int) == 34)=false:=qqn (by omega);have e39:((D.c k:Int) == 39)=false:=qqn (by omega);have e116:((D.c k:Int) == 116)=false:=qqn (by omega);have e102:((D.c k:Int) == 102)=false:=qqn (by omega);have e105:((D.c k:Int) == 105)=false:=qqn (by omega);have e110:((D.c k:Int) == 110)=false:=qqn (by omega);have e91:((D.c k:Int) == 91)=false:=qqn (by omega);have e123:((D.c k:Int) == 123)=false:=qqn (by omega);have e43:((D.c k:Int) == 43)=true:=by rw [beq_iff_eq];omega
 clear hP hv hno hb hq hval hrv hnn hlaw;have hsc:=scN_c D A _ C k n c w HP.out.doc HV.out hk;obtain ⟨s,hs'⟩:∃ s,scN D k=s:=⟨_,rfl⟩;rw [hs'] at hsc;have HSC:=qqh hsc;have HSS:=qqh hs';clear hsc hs';have HL:Hid (NumL D k (numP D k) s):=by show NumL _ _ _ _;rw [<- HSS.out];exact HLAW.out
 cases s with
 | good K p =>
  have hx:∃ x,numP D k=.good x p/\x.2=D.sub k (p - k)/\k<p/\K=kmap x.1:=by
   have h:=HL.out;cases hr:numP D k with
   | good x p' =>
    rw [hr] at h;obtain ⟨h1,h2,h3 | h3⟩:=h
    ·injection h3 with e1 e2;subst e1 e2;exact ⟨x,rfl,h1,h2,rfl⟩
    ·cases h3.1
   | bad => rw [hr] at h;cases h
   | opn => exact absurd hr HNN.out
  obtain ⟨x,hr,hx2,hkp,rfl⟩:=hx;have hRV:Hid (valP D (d+1) k=.good (.mk x.1 (D.sub k (p - k)) [] []) p):=by show _=_;rw [HRV.out,hr,<- hx2];rfl
  have hK:=qqh (numP_kind D k p x hr);clear hr hx2;go_enter Tryz.func91,Tryz.ntmps91;go_wp2_with fail
  refine (pnum_y D A _ C bp k n c (kmap x.1) p _ left nd er ns nst (by exact HP.out) (by omega) HV.out (by omega) (by exact HSC.out)).mono ?_;rintro e w1 hpost;have HVl:=qqh (LfPost.vl hpost hK.out);obtain ⟨a1,n1,c1,nd1,rfl,hvw,hP1,hF1⟩:=hpost;clear hvw hP1 hF1;go_wp2_with fail
  go_ret3
  rw [hRV.out];exact HVl.out
 | bad =>
  have hx:Hid (valP D (d+1) k=.bad\/∃ t p,valP D (d+1) k=.good t p/\ctxB D p):=by
   have h:=HL.out;cases hr:numP D k with
   | good x p' =>
    rw [hr] at h;obtain ⟨h1,h2,h3 | h3⟩:=h
    ·cases h3
    ·exact .inr ⟨.mk x.1 x.2 [] [],p',by rw [HRV.out,hr];rfl,.inl h3.2⟩
   | bad => exact .inl (by rw [HRV.out,hr];rfl)
   | opn => exact absurd hr HNN.out
  go_enter Tryz.func91,Tryz.ntmps91;go_wp2_with fail
  refine (pnum_n D A _ C bp k n c _ left nd er ns nst (by exact HP.out) HV.out (by exact HSC.out)).mono ?_;intro e w1 herr;have HErr:=qqh herr;clear herr;obtain ⟨bb,ndx,Nx,xsx,rfl,hE,hPI,_⟩:=ErrH.out HErr.out;have HE:=qqh hE;have HPI:=qqh hPI;clear hE hPI;go_wp2_with fail
  go_ret3
  rcases hx.out with h | ⟨t,p,h,hc⟩
  ·rw [h];exact HErr.out
  ·rw [h];exact .inr ⟨HErr.out,hc⟩
 | opn =>
  exfalso;have h:=HL.out;cases hr:numP D k with
  | good x p' => rw [hr] at h;obtain ⟨h1,h2,h3 | h3⟩:=h;cases h3;cases h3.1
  | bad => rw [hr] at h;cases h
  | opn => exact absurd hr HNN.out
theorem val_minus (D:Doc) (d:Nat) (hval:ValCI D d) (A a:Option Addr) (C bp k n c:Nat) (w:World) (left nd er:Value) (ns:List Nd) (nst:Nat) (hP:PN D A C bp w left nd ns er nst) (hB:ns.length+4 * (D.n - k)<=90000000) (hv:VW D A C k a n c)
  (hd:nst+(d+1)<=100) (hno:valP D (d+1) k ≠ .opn) (hq:D.c k=45) :
  Calls Tryz.prog 91 #[.pointer (some ⟨bp,0,none⟩),.slice a n c] w (VlPost D A C bp w nd left er ns nst (valP D (d+1) k)):=by
 have hs:=D.small;have hC1:=hP.doc.1;have hC2:=hP.doc.2.1;have hlt:=hP.ltB;have hln:=qql hv.len;have hln':=qql hv.len.symm;have hcp:=qql hv.cap;have hcp':=qql hv.cap.symm;have hlaw:NumL D k (numP D k) (scN D k):=numP_law D k (fun x => by have:=x.1;rw [twoRun,if_neg (by omega)] at this;omega) (fun x => by have:=x.1;rw [twoRun,if_neg (by omega)] at this;omega);have hk:k<D.n:=Doc.in_of (by omega);have hrv:valP D (d+1) k=(numP D k).leaf:=valP_num (by omega);have hnn:numP D k ≠ .opn:=fun e => hno (by rw [hrv,e];rfl)
 have HRV:=qqh hrv;have HNN:=qqh hnn;have HLAW:=qqh hlaw;obtain ⟨bd,q,rfl,hb⟩:=hv.bytes hP.doc hk;have b0:=hb 0 (by omega);simp only [Nat.add_zero] at b0;have HB:=qqh hb;have HP:=qqh hP;have HV:=qqh hv;have e34:((D.c k:Int) == 34)=false:=qqn (by omega);have e39:((D.c k:Int) == 39)=false:=qqn (by omega);have e116:((D.c k:Int) == 116)=false:=qqn (by omega);have e102:((D.c k:Int) == 102)=false:=qqn (by omega);have e105:((D.c k:Int) == 105)=false:=qqn (by omega);have e110:((D.c k:Int) == 110)=false:=qqn (by omega);have e91:((D.c k:Int) == 91)=false:=qqn (by omega);have e123:((D.c k:Int) == 123)=false:=qqn (by omega);have e43:((D.c k:Int) == 43)=false:=qqn (by omega);have e45:((D.c k:Int) == 45)=true:=by rw [beq_iff_eq];omega
 clear hP hv hno hb hq hval hrv hnn hlaw;have hsc:=scN_c D A _ C k n c w HP.out.doc HV.out hk;obtain ⟨s,hs'⟩:∃ s,scN D k=s:=⟨_,rfl⟩;rw [hs'] at hsc;have HSC:=qqh hsc;have HSS:=qqh hs';clear hsc hs';have HL:Hid (NumL D k (numP D k) s):=by show NumL _ _ _ _;rw [<- HSS.out];exact HLAW.out
 cases s with
 | good K p =>
  have hx:∃ x,numP D k=.good x p/\x.2=D.sub k (p - k)/\k<p/\K=kmap x.1:=by
   have h:=HL.out;cases hr:numP D k with
   | good x p' =>
    rw [hr] at h;obtain ⟨h1,h2,h3 | h3⟩:=h
    ·injection h3 with e1 e2;subst e1 e2;exact ⟨x,rfl,h1,h2,rfl⟩
    ·cases h3.1
   | bad => rw [hr] at h;cases h
   | opn => exact absurd hr HNN.out
  obtain ⟨x,hr,hx2,hkp,rfl⟩:=hx;have hRV:Hid (valP D (d+1) k=.good (.mk x.1 (D.sub k (p - k)) [] []) p):=by show _=_;rw [HRV.out,hr,<- hx2];rfl
  have hK:=qqh (numP_kind D k p x hr);clear hr hx2;go_enter Tryz.func91,Tryz.ntmps91;go_wp2_with fail
  refine (pnum_y D A _ C bp k n c (kmap x.1) p _ left nd er ns nst (by exact HP.out) (by omega) HV.out (by omega) (by exact HSC.out)).mono ?_;rintro e w1 hpost;have HVl:=qqh (LfPost.vl hpost hK.out);obtain ⟨a1,n1,c1,nd1,rfl,hvw,hP1,hF1⟩:=hpost;clear hvw hP1 hF1;go_wp2_with fail
  go_ret3
  rw [hRV.out];exact HVl.out
 | bad =>
  have hx:Hid (valP D (d+1) k=.bad\/∃ t p,valP D (d+1) k=.good t p/\ctxB D p):=by
   have h:=HL.out;cases hr:numP D k with
   | good x p' =>
    rw [hr] at h;obtain ⟨h1,h2,h3 | h3⟩:=h
    ·cases h3
    ·exact .inr ⟨.mk x.1 x.2 [] [],p',by rw [HRV.out,hr];rfl,.inl h3.2⟩
   | bad => exact .inl (by rw [HRV.out,hr];rfl)
   | opn => exact absurd hr HNN.out
  go_enter Tryz.func91,Tryz.ntmps91;go_wp2_with fail
  refine (pnum_n D A _ C bp k n c _ left nd er ns nst (by exact HP.out) HV.out (by exact HSC.out)).mono ?_;intro e w1 herr;have HErr:=qqh herr;clear herr;obtain ⟨bb,ndx,Nx,xsx,rfl,hE,hPI,_⟩:=ErrH.out HErr.out;have HE:=qqh hE;have HPI:=qqh hPI;clear hE hPI;go_wp2_with fail
  go_ret3
  rcases hx.out with h | ⟨t,p,h,hc⟩
  ·rw [h];exact HErr.out
  ·rw [h];exact .inr ⟨HErr.out,hc⟩
 | opn =>
  exfalso;have h:=HL.out;cases hr:numP D k with
  | good x p' => rw [hr] at h;obtain ⟨h1,h2,h3 | h3⟩:=h;cases h3;cases h3.1
  | bad => rw [hr] at h;cases h
  | opn => exact absurd hr HNN.out
theorem val_dig (D:Doc) (d:Nat) (hval:ValCI D d) (A a:Option Addr) (C bp k n c:Nat) (w:World) (left nd er:Value) (ns:List Nd) (nst:Nat) (hP:PN D A C bp w left nd ns er nst) (hB:ns.length+4 * (D.n - k)<=90000000) (hv:VW D A C k a n c)
  (hd:nst+(d+1)<=100) (hno:valP D (d+1) k ≠ .opn) (hq:48<=D.c k/\D.c k<=57) (hds:¬ dtS D k) :
  Calls Tryz.prog 91 #[.pointer (some ⟨bp,0,none⟩),.slice a n c] w (VlPost D A C bp w nd left er ns nst (valP D (d+1) k)):=by
 have hs:=D.small;have hC1:=hP.doc.1;have hC2:=hP.doc.2.1;have hlt:=hP.ltB;have hln:=qql hv.len;have hln':=qql hv.len.symm;have hcp:=qql hv.cap;have hcp':=qql hv.cap.symm;have hlaw:NumL D k (numP D k) (scN D k):=numP_law D k (fun x => hds ((dtS_iff D k hq).2 (.inl x))) (fun x => hds ((dtS_iff D k hq).2 (.inr x)));have hk:k<D.n:=Doc.in_of (by omega);have hrv:valP D (d+1) k=(numP D k).leaf:=valP_num (by omega);have hnn:numP D k ≠ .opn:=fun e => hno (by rw [hrv,e];rfl)
 have HRV:=qqh hrv;have HNN:=qqh hnn;have HLAW:=qqh hlaw;obtain ⟨bd,q,rfl,hb⟩:=hv.bytes hP.doc hk;have b0:=hb 0 (by omega);simp only [Nat.add_zero] at b0;have HB:=qqh hb;have HP:=qqh hP;have HV:=qqh hv;have HDS:=qqh (qqf hds);have g1:decide (48<=(D.c k:Int))=true:=qqt (by omega);have g2:decide ((D.c k:Int)<=57)=true:=qqt (by omega);have e34:((D.c k:Int) == 34)=false:=qqn (by omega);have e39:((D.c k:Int) == 39)=false:=qqn (by omega);have e116:((D.c k:Int) == 116)=false:=qqn (by omega);have e102:((D.c k:Int) == 102)=false:=qqn (by omega);have e105:((D.c k:Int) == 105)=false:=qqn (by omega);have e110:((D.c k:Int) == 110)=false:=qqn (by omega);have e91:((D.c k:Int) == 91)=false:=qqn (by omega);have e123:((D.c k:Int) == 123)=false:=qqn (by omega);have e43:((D.c k:Int) == 43)=false:=qqn (by omega);have e45:((D.c k:Int) == 45)=false:=qqn (by omega);clear hP hv hno hb hq hval hrv hnn hlaw hds;have hsc:=scN_c D A _ C k n c w HP.out.doc HV.out hk;obtain ⟨s,hs'⟩:∃ s,scN D k=s:=⟨_,rfl⟩;rw [hs'] at hsc;have HSC:=qqh hsc;have HSS:=qqh hs';clear hsc hs';have HL:Hid (NumL D k (numP D k) s):=by show NumL _ _ _ _;rw [<- HSS.out];exact HLAW.out
 cases s with
 | good K p =>
  have hx:∃ x,numP D k=.good x p/\x.2=D.sub k (p - k)/\k<p/\K=kmap x.1:=by
   have h:=HL.out;cases hr:numP D k with
   | good x p' =>
    rw [hr] at h;obtain ⟨h1,h2,h3 | h3⟩:=h
    ·injection h3 with e1 e2;subst e1 e2;exact ⟨x,rfl,h1,h2,rfl⟩
    ·cases h3.1
   | bad => rw [hr] at h;cases h
   | opn => exact absurd hr HNN.out
  obtain ⟨x,hr,hx2,hkp,rfl⟩:=hx;have hRV:Hid (valP D (d+1) k=.good (.mk x.1 (D.sub k (p - k)) [] []) p):=by show _=_;rw [HRV.out,hr,<- hx2];rfl
  have hK:=qqh (numP_kind D k p x hr);clear hr hx2;go_enter Tryz.func91,Tryz.ntmps91;go_wp2_with fail
  refine (dts_c D A _ C k n c _ (by exact HP.out.doc) HV.out hk).mono ?_;rintro e w1 ⟨rfl,hw⟩;obtain rfl:=hw.symm;rw [HDS.out];go_wp2_with fail
  refine (pnum_y D A _ C bp k n c (kmap x.1) p _ left nd er ns nst (by exact HP.out) (by omega) HV.out (by omega) (by exact HSC.out)).mono ?_;rintro e w1 hpost;have HVl:=qqh (LfPost.vl hpost hK.out);obtain ⟨a1,n1,c1,nd1,rfl,hvw,hP1,hF1⟩:=hpost;clear hvw hP1 hF1;go_wp2_with fail
  go_ret3
  rw [hRV.out];exact HVl.out
 | bad =>
  have hx:Hid (valP D (d+1) k=.bad\/∃ t p,valP D (d+1) k=.good t p/\ctxB D p):=by
   have h:=HL.out;cases hr:numP D k with
   | good x p' =>
    rw [hr] at h;obtain ⟨h1,h2,h3 | h3⟩:=h
    ·cases h3
    ·exact .inr ⟨.mk x.1 x.2 [] [],p',by rw [HRV.out,hr];rfl,.inl h3.2⟩
   | bad => exact .inl (by rw [HRV.out,hr];rfl)
   | opn => exact absurd hr HNN.out
  go_enter Tryz.func91,Tryz.ntmps91;go_wp2_with fail
  refine (dts_c D A _ C k n c _ (by exact HP.out.doc) HV.out hk).mono ?_;rintro e w1 ⟨rfl,hw⟩;obtain rfl:=hw.symm;rw [HDS.out];go_wp2_with fail
  refine (pnum_n D A _ C bp k n c _ left nd er ns nst (by exact HP.out) HV.out (by exact HSC.out)).mono ?_;intro e w1 herr;have HErr:=qqh herr;clear herr;obtain ⟨bb,ndx,Nx,xsx,rfl,hE,hPI,_⟩:=ErrH.out HErr.out;have HE:=qqh hE;have HPI:=qqh hPI;clear hE hPI;go_wp2_with fail
  go_ret3
  rcases hx.out with h | ⟨t,p,h,hc⟩
  ·rw [h];exact HErr.out
  ·rw [h];exact .inr ⟨HErr.out,hc⟩
 | opn =>
  exfalso;have h:=HL.out;cases hr:numP D k with
  | good x p' => rw [hr] at h;obtain ⟨h1,h2,h3 | h3⟩:=h;cases h3;cases h3.1
  | bad => rw [hr] at h;cases h
  | opn => exact absurd hr HNN.out
theorem val_date (D:Doc) (d:Nat) (hval:ValCI D d) (A a:Option Addr) (C bp k n c:Nat) (w:World) (left nd er:Value) (ns:List Nd) (nst:Nat) (hP:PN D A C bp w left nd ns er nst) (hB:ns.length+4 * (D.n - k)<=90000000) (hv:VW D A C k a n c)
  (hd:nst+(d+1)<=100) (hno:valP D (d+1) k ≠ .opn) (hq:48<=D.c k/\D.c k<=57) (hds:dtS D k) :
  Calls Tryz.prog 91 #[.pointer (some ⟨bp,0,none⟩),.slice a n c] w (VlPost D A C bp w nd left er ns nst (valP D (d+1) k)):=by
 have hs:=D.small;have hC1:=hP.doc.1;have hC2:=hP.doc.2.1;have hlt:=hP.ltB;have hln:=qql hv.len;have hln':=qql hv.len.symm;have hcp:=qql hv.cap;have hcp':=qql hv.cap.symm;have hk:k<D.n:=Doc.in_of (by omega);have hrv:valP D (d+1) k=(numP D k).leaf:=valP_num (by omega);have hlaw:=numD_law D k ((dtS_iff D k hq).1 hds);have hx:∃ x p,numP D k=.good x p/\x.2=D.sub k (p - k)/\k<p/\(dtRun D k none).1=p/\dtK D k (dtRun D k none)=kmap x.1:=by
  cases hr:numP D k with
  | good x p => rw [hr] at hlaw;exact ⟨x,p,rfl,hlaw⟩
  | bad => rw [hr] at hlaw;exact hlaw.elim
  | opn => exact absurd (by rw [hrv,hr];rfl) hno
 obtain ⟨x,p,hr,hx2,hkp,hp1,hp2⟩:=hx;have hRV:Hid (valP D (d+1) k=.good (.mk x.1 (D.sub k (p - k)) [] []) p):=by show _=_;rw [hrv,hr,<- hx2];rfl
 have hK:=qqh (numP_kind D k p x hr);have hsc:=scD_c D A a C k n c w hP.doc hv hk hq hds;rw [hp1,hp2] at hsc;obtain ⟨bd,q,rfl,hb⟩:=hv.bytes hP.doc hk;have b0:=hb 0 (by omega);simp only [Nat.add_zero] at b0;have HB:=qqh hb;have HSC:=qqh hsc;have HP:=qqh hP;have HV:=qqh hv;have HDS:=qqh (qqt hds);have g1:decide (48<=(D.c k:Int))=true:=qqt (by omega);have g2:decide ((D.c k:Int)<=57)=true:=qqt (by omega);have e34:((D.c k:Int) == 34)=false:=qqn (by omega);have e39:((D.c k:Int) == 39)=false:=qqn (by omega);have e116:((D.c k:Int) == 116)=false:=qqn (by omega);have e102:((D.c k:Int) == 102)=false:=qqn (by omega);have e105:((D.c k:Int) == 105)=false:=qqn (by omega);have e110:((D.c k:Int) == 110)=false:=qqn (by omega);have e91:((D.c k:Int) == 91)=false:=qqn (by omega);have e123:((D.c k:Int) == 123)=false:=qqn (by omega);have e43:((D.c k:Int) == 43)=false:=qqn (by omega);have e45:((D.c k:Int) == 45)=false:=qqn (by omega);clear hP hv hno hb hq hval hrv hlaw hds hr hx2 hp1 hp2 hsc;go_enter Tryz.func91,Tryz.ntmps91;go_wp2_with fail
 refine (dts_c D A _ C k n c _ (by exact HP.out.doc) HV.out hk).mono ?_;rintro e w1 ⟨rfl,hw⟩;obtain rfl:=hw.symm;rw [HDS.out];go_wp2_with fail
 refine (pdt_y D A _ C bp k n c (kmap x.1) p _ left nd er ns nst (by exact HP.out) (by omega) HV.out (by omega) (by exact HSC.out)).mono ?_;rintro e w1 hpost;have HVl:=qqh (LfPost.vl hpost hK.out);obtain ⟨a1,n1,c1,nd1,rfl,hvw,hP1,hF1⟩:=hpost;clear hvw hP1 hF1;go_wp2_with fail
 go_ret3
 rw [hRV.out];exact HVl.out
theorem val_dq3 (D:Doc) (d:Nat) (hval:ValCI D d) (A a:Option Addr) (C bp k n c:Nat) (w:World) (left nd er:Value) (ns:List Nd) (nst:Nat) (hP:PN D A C bp w left nd ns er nst) (hB:ns.length+4 * (D.n - k)<=90000000) (hv:VW D A C k a n c)
  (hd:nst+(d+1)<=100) (hno:valP D (d+1) k ≠ .opn) (hq:D.c k=34) (h3:three D 34 k) :
  Calls Tryz.prog 91 #[.pointer (some ⟨bp,0,none⟩),.slice a n c] w (VlPost D A C bp w nd left er ns nst (valP D (d+1) k)):=by
 have hs:=D.small;have hC1:=hP.doc.1;have hC2:=hP.doc.2.1;have hlt:=hP.ltB;have hln:=qql hv.len;have hln':=qql hv.len.symm;have hcp:=qql hv.cap;have hcp':=qql hv.cap.symm;have hk:k<D.n:=Doc.in_of (by omega);obtain ⟨r0,hr0⟩:∃ r0,lin D 34 k=r0:=⟨_,rfl⟩;have hrv:valP D (d+1) k=r0.str:=by rw [valP_eq,if_pos (.inl h3),hq,hr0]
 have hnr:r0 ≠ .opn:=fun e => hno (by rw [hrv,e];rfl)
 have hin:∀ l p,r0=.good l p->k<p:=fun l p e => by rw [e] at hr0;exact (lin_in D 34 k p (by omega) l hr0).1
 have HIN:=qqh hin;have HRV:=qqh hrv;have HR0:=qqh hr0;have HNO:=qqh hnr;obtain ⟨bd,q,rfl,hb⟩:=hv.bytes hP.doc hk;have b0:=hb 0 (by omega);simp only [Nat.add_zero] at b0;have HB:=qqh hb;have e34:((D.c k:Int) == 34)=true:=by rw [beq_iff_eq];omega
 have HP:=qqh hP;have HV:=qqh hv;have hin1:=Doc.in_of (D:=D) (k:=k+1) (by have:=h3.2.1;omega);have hin2:=Doc.in_of (D:=D) (k:=k+2) (by have:=h3.2.2;omega);have b1:=HB.out 1 (by omega);have b2:=HB.out 2 (by omega);have f1:((D.c (k+1):Int) == 34)=true:=by rw [beq_iff_eq];have:=h3.2.1;omega
 have f2:((D.c (k+2):Int) == 34)=true:=by rw [beq_iff_eq];have:=h3.2.2;omega
 clear hP hv hr0 hrv hnr hin hno hb hq h3 hval;go_enter Tryz.func91,Tryz.ntmps91;go_wp2_with fail
 refine (mbasic_c D A _ C k n c (.pointer (some ⟨bp,0,none⟩)) _ (by exact HP.out.doc) HV.out (by omega) (by rw [HR0.out];exact HNO.out)).mono ?_;intro e w1 hpost;rw [HR0.out] at hpost;have HPost:=qqh hpost;clear hpost;rcases HPost.out with hst | ⟨HErr,l,p,rfl,hq⟩
 ·cases r0 with
  | opn => exact absurd rfl HNO.out
  | bad =>
   have HErr:Err4 w e w1:=hst;obtain ⟨⟨v,rfl,hE⟩,hk1⟩:=HErr;obtain ⟨b,rfl⟩:=Err.ptr hE;have HE:=qqh hE;have HK1:=qqh hk1;clear hE hk1;go_wp2_with fail
   go_ret3
   rw [HRV.out];exact PN.errH HP.out HK1.out HE.out hlt (Kp.refl _ _)
  | good l p =>
   obtain ⟨hk1,a0,v,a1,n1,c1,rfl,hrd,hvw⟩:=hst;have HRD:=qqh (RdS.of (bp:=bp) (nd:=nd) hrd hlt (fun g hg => (HP.out.rowlt g hg).2));have HVW:=qqh hvw;have hP1:=qqh (HP.out.nil hk1);have hF1:=qqh (Fr.nil (bp:=bp) (nd:=nd) hk1);have hpn:p<=D.n:=(by have:=hvw.len;omega);have hkp:k<p:=HIN.out l p rfl;obtain ⟨va,vc,hve,hvl⟩:=hrd;subst hve;clear hvw hvl hk1 HPost;go_wp2_with fail
   refine (range_c D A a0 C k (p - k) c bp _ (by exact hP1.out.ltB) (by exact hP1.out.data) hC2 (by omega) (by omega) (by omega)).mono ?_;rintro e w2 ⟨⟨x,y,rfl⟩,hk2⟩;have hP2:=qqh (hP1.out.nil hk2);have hF2:=qqh (hF1.out.trans (Fr.nil hk2));have hRD2:=qqh (RdS.step HRD.out hk2 (fun _ _ _ _ x => x) (fun _ _ x => x) (Fresh.refl _ _));clear hk2;go_wp2_with fail
   refine (push_n D A C bp _ left nd er ns nst (by exact hP2.out) (by omega) 8 x y _ _ l (by exact hRD2.out)).mono ?_;rintro e w3 ⟨nd3,rfl,hP3,hF3⟩;have HP3:=qqh hP3;have HF3:=qqh (hF2.out.trans hF3);clear hP3 hF3;go_wp2_with fail
   go_ret3
   rw [HRV.out];exact .inl ⟨_,_,_,_,rfl,HVW.out,by rw [leafN _ _ _ _ _ (by omega)];exact HP3.out,HF3.out⟩
 ·have HQ:=qqh hq;clear hq HPost;obtain ⟨⟨v,rfl,hE⟩,hk1⟩:=HErr;obtain ⟨b,rfl⟩:=Err.ptr hE;have HE:=qqh hE;have HK1:=qqh hk1;clear hE hk1;go_wp2_with fail
  go_ret3
  rw [HRV.out];exact .inr ⟨PN.errH HP.out HK1.out HE.out hlt (Kp.refl _ _),.inr HQ.out⟩
theorem val_dq1 (D:Doc) (d:Nat) (hval:ValCI D d) (A a:Option Addr) (C bp k n c:Nat) (w:World) (left nd er:Value) (ns:List Nd) (nst:Nat) (hP:PN D A C bp w left nd ns er nst) (hB:ns.length+4 * (D.n - k)<=90000000) (hv:VW D A C k a n c)
  (hd:nst+(d+1)<=100) (hno:valP D (d+1) k ≠ .opn) (hq:D.c k=34) (h3:¬ three D 34 k) :
  Calls Tryz.prog 91 #[.pointer (some ⟨bp,0,none⟩),.slice a n c] w (VlPost D A C bp w nd left er ns nst (valP D (d+1) k)):=by
 have hs:=D.small;have hC1:=hP.doc.1;have hC2:=hP.doc.2.1;have hlt:=hP.ltB;have hln:=qql hv.len;have hln':=qql hv.len.symm;have hcp:=qql hv.cap;have hcp':=qql hv.cap.symm;have hk:k<D.n:=Doc.in_of (by omega);obtain ⟨r0,hr0⟩:∃ r0,txt D 34 k=r0:=⟨_,rfl⟩;have hrv:valP D (d+1) k=r0.str:=by rw [valP_eq,if_neg (fun h => h.elim h3 (fun h => by have:=h.1;omega)),if_pos (by omega),hq,hr0]
 have hnr:r0 ≠ .opn:=fun e => hno (by rw [hrv,e];rfl)
 have hin:∀ l p,r0=.good l p->k<p:=fun l p e => by rw [e] at hr0;have:=txt_in D 34 k p l hr0;omega
 have HIN:=qqh hin;have HRV:=qqh hrv;have HR0:=qqh hr0;have HNO:=qqh hnr;obtain ⟨bd,q,rfl,hb⟩:=hv.bytes hP.doc hk;have b0:=hb 0 (by omega);simp only [Nat.add_zero] at b0;have HB:=qqh hb;have e34:((D.c k:Int) == 34)=true:=by rw [beq_iff_eq];omega
 have HP:=qqh hP;have HV:=qqh hv;have HH3:=qqh h3;have HHQ:=qqh hq;clear hP hv hr0 hrv hnr hin hno hb hq h3 hval;rcases qqg 2 n with hl2 | hl2
 ·have b1:=HB.out 1 (by omega);have b2:=HB.out 2 (by omega);by_cases h1:D.c (k+1)=34
  ·have f1:((D.c (k+1):Int) == 34)=true:=(by rw [beq_iff_eq];omega);have f2:((D.c (k+2):Int) == 34)=false:=qqn (fun e => HH3.out ⟨HHQ.out,h1,by omega⟩);clear h1;go_enter Tryz.func91,Tryz.ntmps91;go_wp2_with fail
   refine (basic_c D A _ C k n c (.pointer (some ⟨bp,0,none⟩)) _ (by exact HP.out.doc) HV.out (by omega) (by rw [HR0.out];exact HNO.out)).mono ?_;intro e w1 hpost;rw [HR0.out] at hpost;have HPost:=qqh hpost;clear hpost;cases r0 with
   | opn => exact absurd rfl HNO.out
   | bad =>
    have HErr:Err4 w e w1:=HPost.out;obtain ⟨⟨v,rfl,hE⟩,hk1⟩:=HErr;obtain ⟨b,rfl⟩:=Err.ptr hE;have HE:=qqh hE;have HK1:=qqh hk1;clear hE hk1;go_wp2_with fail
    go_ret3
    rw [HRV.out];exact PN.errH HP.out HK1.out HE.out hlt (Kp.refl _ _)
   | good l p =>
    obtain ⟨hk1,a0,v,a1,n1,c1,rfl,hrd,hvw⟩:=HPost.out;have HRD:=qqh (RdS.of (bp:=bp) (nd:=nd) hrd hlt (fun g hg => (HP.out.rowlt g hg).2));have HVW:=qqh hvw;have hP1:=qqh (HP.out.nil hk1);have hF1:=qqh (Fr.nil (bp:=bp) (nd:=nd) hk1);have hpn:p<=D.n:=(by have:=hvw.len;omega);have hkp:k<p:=HIN.out l p rfl;obtain ⟨va,vc,hve,hvl⟩:=hrd;subst hve;clear hvw hvl hk1 HPost;go_wp2_with fail
    refine (range_c D A a0 C k (p - k) c bp _ (by exact hP1.out.ltB) (by exact hP1.out.data) hC2 (by omega) (by omega) (by omega)).mono ?_;rintro e w2 ⟨⟨x,y,rfl⟩,hk2⟩;have hP2:=qqh (hP1.out.nil hk2);have hF2:=qqh (hF1.out.trans (Fr.nil hk2));have hRD2:=qqh (RdS.step HRD.out hk2 (fun _ _ _ _ x => x) (fun _ _ x => x) (Fresh.refl _ _));clear hk2;go_wp2_with fail
    refine (push_n D A C bp _ left nd er ns nst (by exact hP2.out) (by omega) 8 x y _ _ l (by exact hRD2.out)).mono ?_;rintro e w3 ⟨nd3,rfl,hP3,hF3⟩;have HP3:=qqh hP3;have HF3:=qqh (hF2.out.trans hF3);clear hP3 hF3;go_wp2_with fail
    go_ret3
    rw [HRV.out];exact .inl ⟨_,_,_,_,rfl,HVW.out,by rw [leafN _ _ _ _ _ (by omega)];exact HP3.out,HF3.out⟩
  ·have f1:((D.c (k+1):Int) == 34)=false:=qqn (by omega);clear h1;go_enter Tryz.func91,Tryz.ntmps91;go_wp2_with fail
   refine (basic_c D A _ C k n c (.pointer (some ⟨bp,0,none⟩)) _ (by exact HP.out.doc) HV.out (by omega) (by rw [HR0.out];exact HNO.out)).mono ?_;intro e w1 hpost;rw [HR0.out] at hpost;have HPost:=qqh hpost;clear hpost;cases r0 with
   | opn => exact absurd rfl HNO.out
   | bad =>
    have HErr:Err4 w e w1:=HPost.out;obtain ⟨⟨v,rfl,hE⟩,hk1⟩:=HErr;obtain ⟨b,rfl⟩:=Err.ptr hE;have HE:=qqh hE;have HK1:=qqh hk1;clear hE hk1;go_wp2_with fail
    go_ret3
    rw [HRV.out];exact PN.errH HP.out HK1.out HE.out hlt (Kp.refl _ _)
   | good l p =>
    obtain ⟨hk1,a0,v,a1,n1,c1,rfl,hrd,hvw⟩:=HPost.out;have HRD:=qqh (RdS.of (bp:=bp) (nd:=nd) hrd hlt (fun g hg => (HP.out.rowlt g hg).2));have HVW:=qqh hvw;have hP1:=qqh (HP.out.nil hk1);have hF1:=qqh (Fr.nil (bp:=bp) (nd:=nd) hk1);have hpn:p<=D.n:=(by have:=hvw.len;omega);have hkp:k<p:=HIN.out l p rfl;obtain ⟨va,vc,hve,hvl⟩:=hrd;subst hve;clear hvw hvl hk1 HPost;go_wp2_with fail
    refine (range_c D A a0 C k (p - k) c bp _ (by exact hP1.out.ltB) (by exact hP1.out.data) hC2 (by omega) (by omega) (by omega)).mono ?_;rintro e w2 ⟨⟨x,y,rfl⟩,hk2⟩;have hP2:=qqh (hP1.out.nil hk2);have hF2:=qqh (hF1.out.trans (Fr.nil hk2));have hRD2:=qqh (RdS.step HRD.out hk2 (fun _ _ _ _ x => x) (fun _ _ x => x) (Fresh.refl _ _));clear hk2;go_wp2_with fail
    refine (push_n D A C bp _ left nd er ns nst (by exact hP2.out) (by omega) 8 x y _ _ l (by exact hRD2.out)).mono ?_;rintro e w3 ⟨nd3,rfl,hP3,hF3⟩;have HP3:=qqh hP3;have HF3:=qqh (hF2.out.trans hF3);clear hP3 hF3;go_wp2_with fail
    go_ret3
    rw [HRV.out];exact .inl ⟨_,_,_,_,rfl,HVW.out,by rw [leafN _ _ _ _ _ (by omega)];exact HP3.out,HF3.out⟩
 ·go_enter Tryz.func91,Tryz.ntmps91;go_wp2_with fail
  refine (basic_c D A _ C k n c (.pointer (some ⟨bp,0,none⟩)) _ (by exact HP.out.doc) HV.out (by omega) (by rw [HR0.out];exact HNO.out)).mono ?_;intro e w1 hpost;rw [HR0.out] at hpost;have HPost:=qqh hpost;clear hpost;cases r0 with
  | opn => exact absurd rfl HNO.out
  | bad =>
   have HErr:Err4 w e w1:=HPost.out;obtain ⟨⟨v,rfl,hE⟩,hk1⟩:=HErr;obtain ⟨b,rfl⟩:=Err.ptr hE;have HE:=qqh hE;have HK1:=qqh hk1;clear hE hk1;go_wp2_with fail
   go_ret3
   rw [HRV.out];exact PN.errH HP.out HK1.out HE.out hlt (Kp.refl _ _)
  | good l p =>
   obtain ⟨hk1,a0,v,a1,n1,c1,rfl,hrd,hvw⟩:=HPost.out;have HRD:=qqh (RdS.of (bp:=bp) (nd:=nd) hrd hlt (fun g hg => (HP.out.rowlt g hg).2));have HVW:=qqh hvw;have hP1:=qqh (HP.out.nil hk1);have hF1:=qqh (Fr.nil (bp:=bp) (nd:=nd) hk1);have hpn:p<=D.n:=(by have:=hvw.len;omega);have hkp:k<p:=HIN.out l p rfl;obtain ⟨va,vc,hve,hvl⟩:=hrd;subst hve;clear hvw hvl hk1 HPost;go_wp2_with fail
   refine (range_c D A a0 C k (p - k) c bp _ (by exact hP1.out.ltB) (by exact hP1.out.data) hC2 (by omega) (by omega) (by omega)).mono ?_;rintro e w2 ⟨⟨x,y,rfl⟩,hk2⟩;have hP2:=qqh (hP1.out.nil hk2);have hF2:=qqh (hF1.out.trans (Fr.nil hk2));have hRD2:=qqh (RdS.step HRD.out hk2 (fun _ _ _ _ x => x) (fun _ _ x => x) (Fresh.refl _ _));clear hk2;go_wp2_with fail
   refine (push_n D A C bp _ left nd er ns nst (by exact hP2.out) (by omega) 8 x y _ _ l (by exact hRD2.out)).mono ?_;rintro e w3 ⟨nd3,rfl,hP3,hF3⟩;have HP3:=qqh hP3;have HF3:=qqh (hF2.out.trans hF3);clear hP3 hF3;go_wp2_with fail
   go_ret3
   rw [HRV.out];exact .inl ⟨_,_,_,_,rfl,HVW.out,by rw [leafN _ _ _ _ _ (by omega)];exact HP3.out,HF3.out⟩
theorem val_sq3 (D:Doc) (d:Nat) (hval:ValCI D d) (A a:Option Addr) (C bp k n c:Nat) (w:World) (left nd er:Value) (ns:List Nd) (nst:Nat) (hP:PN D A C bp w left nd ns er nst) (hB:ns.length+4 * (D.n - k)<=90000000) (hv:VW D A C k a n c)
  (hd:nst+(d+1)<=100) (hno:valP D (d+1) k ≠ .opn) (hq:D.c k=39) (h3:three D 39 k) :
  Calls Tryz.prog 91 #[.pointer (some ⟨bp,0,none⟩),.slice a n c] w (VlPost D A C bp w nd left er ns nst (valP D (d+1) k)):=by
 have hs:=D.small;have hC1:=hP.doc.1;have hC2:=hP.doc.2.1;have hlt:=hP.ltB;have hln:=qql hv.len;have hln':=qql hv.len.symm;have hcp:=qql hv.cap;have hcp':=qql hv.cap.symm;have hk:k<D.n:=Doc.in_of (by omega);obtain ⟨r0,hr0⟩:∃ r0,lin D 39 k=r0:=⟨_,rfl⟩;have hrv:valP D (d+1) k=r0.str:=by rw [valP_eq,if_pos (.inr h3),hq,hr0]
 have hnr:r0 ≠ .opn:=fun e => hno (by rw [hrv,e];rfl)
 have hin:∀ l p,r0=.good l p->k<p:=fun l p e => by rw [e] at hr0;exact (lin_in D 39 k p (by omega) l hr0).1
 have HIN:=qqh hin;have HRV:=qqh hrv;have HR0:=qqh hr0;have HNO:=qqh hnr;obtain ⟨bd,q,rfl,hb⟩:=hv.bytes hP.doc hk;have b0:=hb 0 (by omega);simp only [Nat.add_zero] at b0;have HB:=qqh hb;have e34:((D.c k:Int) == 34)=false:=qqn (by omega);have e39:((D.c k:Int) == 39)=true:=by rw [beq_iff_eq];omega
 have HP:=qqh hP;have HV:=qqh hv;have hin1:=Doc.in_of (D:=D) (k:=k+1) (by have:=h3.2.1;omega);have hin2:=Doc.in_of (D:=D) (k:=k+2) (by have:=h3.2.2;omega);have b1:=HB.out 1 (by omega);have b2:=HB.out 2 (by omega);have f1:((D.c (k+1):Int) == 39)=true:=by rw [beq_iff_eq];have:=h3.2.1;omega
 have f2:((D.c (k+2):Int) == 39)=true:=by rw [beq_iff_eq];have:=h3.2.2;omega
 clear hP hv hr0 hrv hnr hin hno hb hq h3 hval;go_enter Tryz.func91,Tryz.ntmps91;go_wp2_with fail
 refine (mliteral_c D A _ C k n c (.pointer (some ⟨bp,0,none⟩)) _ (by exact HP.out.doc) HV.out (by omega)).mono ?_;intro e w1 hpost;rw [HR0.out] at hpost;have HPost:=qqh hpost;clear hpost;rcases HPost.out with hst | ⟨HErr,l,p,rfl,hq⟩
 ·cases r0 with
  | opn => exact absurd rfl HNO.out
  | bad =>
   have HErr:Err4 w e w1:=hst;obtain ⟨⟨v,rfl,hE⟩,hk1⟩:=HErr;obtain ⟨b,rfl⟩:=Err.ptr hE;have HE:=qqh hE;have HK1:=qqh hk1;clear hE hk1;go_wp2_with fail
   go_ret3
   rw [HRV.out];exact PN.errH HP.out HK1.out HE.out hlt (Kp.refl _ _)
  | good l p =>
   obtain ⟨hk1,a0,v,a1,n1,c1,rfl,hrd,hvw⟩:=hst;have HRD:=qqh (RdS.of (bp:=bp) (nd:=nd) hrd hlt (fun g hg => (HP.out.rowlt g hg).2));have HVW:=qqh hvw;have hP1:=qqh (HP.out.nil hk1);have hF1:=qqh (Fr.nil (bp:=bp) (nd:=nd) hk1);have hpn:p<=D.n:=(by have:=hvw.len;omega);have hkp:k<p:=HIN.out l p rfl;obtain ⟨va,vc,hve,hvl⟩:=hrd;subst hve;clear hvw hvl hk1 HPost;go_wp2_with fail
   refine (range_c D A a0 C k (p - k) c bp _ (by exact hP1.out.ltB) (by exact hP1.out.data) hC2 (by omega) (by omega) (by omega)).mono ?_;rintro e w2 ⟨⟨x,y,rfl⟩,hk2⟩;have hP2:=qqh (hP1.out.nil hk2);have hF2:=qqh (hF1.out.trans (Fr.nil hk2));have hRD2:=qqh (RdS.step HRD.out hk2 (fun _ _ _ _ x => x) (fun _ _ x => x) (Fresh.refl _ _));clear hk2;go_wp2_with fail
   refine (push_n D A C bp _ left nd er ns nst (by exact hP2.out) (by omega) 8 x y _ _ l (by exact hRD2.out)).mono ?_;rintro e w3 ⟨nd3,rfl,hP3,hF3⟩;have HP3:=qqh hP3;have HF3:=qqh (hF2.out.trans hF3);clear hP3 hF3;go_wp2_with fail
   go_ret3
   rw [HRV.out];exact .inl ⟨_,_,_,_,rfl,HVW.out,by rw [leafN _ _ _ _ _ (by omega)];exact HP3.out,HF3.out⟩
 ·have HQ:=qqh hq;clear hq HPost;obtain ⟨⟨v,rfl,hE⟩,hk1⟩:=HErr;obtain ⟨b,rfl⟩:=Err.ptr hE;have HE:=qqh hE;have HK1:=qqh hk1;clear hE hk1;go_wp2_with fail
  go_ret3
  rw [HRV.out];exact .inr ⟨PN.errH HP.out HK1.out HE.out hlt (Kp.refl _ _),.inr HQ.out⟩
theorem val_sq1 (D:Doc) (d:Nat) (hval:ValCI D d) (A a:Option Addr) (C bp k n c:Nat) (w:World) (left nd er:Value) (ns:List Nd) (nst:Nat) (hP:PN D A C bp w left nd ns er nst) (hB:ns.length+4 * (D.n - k)<=90000000) (hv:VW D A C k a n c)
  (hd:nst+(d+1)<=100) (hno:valP D (d+1) k ≠ .opn) (hq:D.c k=39) (h3:¬ three D 39 k) :
  Calls Tryz.prog 91 #[.pointer (some ⟨bp,0,none⟩),.slice a n c] w (VlPost D A C bp w nd left er ns nst (valP D (d+1) k)):=by
 have hs:=D.small;have hC1:=hP.doc.1;have hC2:=hP.doc.2.1;have hlt:=hP.ltB;have hln:=qql hv.len;have hln':=qql hv.len.symm;have hcp:=qql hv.cap;have hcp':=qql hv.cap.symm;have hk:k<D.n:=Doc.in_of (by omega);obtain ⟨r0,hr0⟩:∃ r0,txt D 39 k=r0:=⟨_,rfl⟩;have hrv:valP D (d+1) k=r0.str:=by rw [valP_eq,if_neg (fun h => h.elim (fun h => by have:=h.1;omega) h3),if_pos (by omega),hq,hr0]
 have hnr:r0 ≠ .opn:=fun e => hno (by rw [hrv,e];rfl)
 have hin:∀ l p,r0=.good l p->k<p:=fun l p e => by rw [e] at hr0;have:=txt_in D 39 k p l hr0;omega
 have HIN:=qqh hin;have HRV:=qqh hrv;have HR0:=qqh hr0;have HNO:=qqh hnr;obtain ⟨bd,q,rfl,hb⟩:=hv.bytes hP.doc hk;have b0:=hb 0 (by omega);simp only [Nat.add_zero] at b0;have HB:=qqh hb;have e34:((D.c k:Int) == 34)=false:=qqn (by omega);have e39:((D.c k:Int) == 39)=true:=by rw [beq_iff_eq];omega
 have HP:=qqh hP;have HV:=qqh hv;have HH3:=qqh h3;have HHQ:=qqh hq;clear hP hv hr0 hrv hnr hin hno hb hq h3 hval;rcases qqg 2 n with hl2 | hl2
 ·have b1:=HB.out 1 (by omega);have b2:=HB.out 2 (by omega);by_cases h1:D.c (k+1)=39
  ·have f1:((D.c (k+1):Int) == 39)=true:=(by rw [beq_iff_eq];omega);have f2:((D.c (k+2):Int) == 39)=false:=qqn (fun e => HH3.out ⟨HHQ.out,h1,by omega⟩);clear h1;go_enter Tryz.func91,Tryz.ntmps91;go_wp2_with fail
   refine (literal_c D A _ C k n c (.pointer (some ⟨bp,0,none⟩)) _ (by exact HP.out.doc) HV.out (by omega)).mono ?_;intro e w1 hpost;rw [HR0.out] at hpost;have HPost:=qqh hpost;clear hpost;cases r0 with
   | opn => exact absurd rfl HNO.out
   | bad =>
    have HErr:Err4 w e w1:=HPost.out;obtain ⟨⟨v,rfl,hE⟩,hk1⟩:=HErr;obtain ⟨b,rfl⟩:=Err.ptr hE;have HE:=qqh hE;have HK1:=qqh hk1;clear hE hk1;go_wp2_with fail
    go_ret3
    rw [HRV.out];exact PN.errH HP.out HK1.out HE.out hlt (Kp.refl _ _)
   | good l p =>
    obtain ⟨hk1,a0,v,a1,n1,c1,rfl,hrd,hvw⟩:=HPost.out;have HRD:=qqh (RdS.of (bp:=bp) (nd:=nd) hrd hlt (fun g hg => (HP.out.rowlt g hg).2));have HVW:=qqh hvw;have hP1:=qqh (HP.out.nil hk1);have hF1:=qqh (Fr.nil (bp:=bp) (nd:=nd) hk1);have hpn:p<=D.n:=(by have:=hvw.len;omega);have hkp:k<p:=HIN.out l p rfl;obtain ⟨va,vc,hve,hvl⟩:=hrd;subst hve;clear hvw hvl hk1 HPost;go_wp2_with fail
    refine (range_c D A a0 C k (p - k) c bp _ (by exact hP1.out.ltB) (by exact hP1.out.data) hC2 (by omega) (by omega) (by omega)).mono ?_;rintro e w2 ⟨⟨x,y,rfl⟩,hk2⟩;have hP2:=qqh (hP1.out.nil hk2);have hF2:=qqh (hF1.out.trans (Fr.nil hk2));have hRD2:=qqh (RdS.step HRD.out hk2 (fun _ _ _ _ x => x) (fun _ _ x => x) (Fresh.refl _ _));clear hk2;go_wp2_with fail
    refine (push_n D A C bp _ left nd er ns nst (by exact hP2.out) (by omega) 8 x y _ _ l (by exact hRD2.out)).mono ?_;rintro e w3 ⟨nd3,rfl,hP3,hF3⟩;have HP3:=qqh hP3;have HF3:=qqh (hF2.out.trans hF3);clear hP3 hF3;go_wp2_with fail
    go_ret3
    rw [HRV.out];exact .inl ⟨_,_,_,_,rfl,HVW.out,by rw [leafN _ _ _ _ _ (by omega)];exact HP3.out,HF3.out⟩
  ·have f1:((D.c (k+1):Int) == 39)=false:=qqn (by omega);clear h1;go_enter Tryz.func91,Tryz.ntmps91;go_wp2_with fail
   refine (literal_c D A _ C k n c (.pointer (some ⟨bp,0,none⟩)) _ (by exact HP.out.doc) HV.out (by omega)).mono ?_;intro e w1 hpost;rw [HR0.out] at hpost;have HPost:=qqh hpost;clear hpost;cases r0 with
   | opn => exact absurd rfl HNO.out
   | bad =>
    have HErr:Err4 w e w1:=HPost.out;obtain ⟨⟨v,rfl,hE⟩,hk1⟩:=HErr;obtain ⟨b,rfl⟩:=Err.ptr hE;have HE:=qqh hE;have HK1:=qqh hk1;clear hE hk1;go_wp2_with fail
    go_ret3
    rw [HRV.out];exact PN.errH HP.out HK1.out HE.out hlt (Kp.refl _ _)
   | good l p =>
    obtain ⟨hk1,a0,v,a1,n1,c1,rfl,hrd,hvw⟩:=HPost.out;have HRD:=qqh (RdS.of (bp:=bp) (nd:=nd) hrd hlt (fun g hg => (HP.out.rowlt g hg).2));have HVW:=qqh hvw;have hP1:=qqh (HP.out.nil hk1);have hF1:=qqh (Fr.nil (bp:=bp) (nd:=nd) hk1);have hpn:p<=D.n:=(by have:=hvw.len;omega);have hkp:k<p:=HIN.out l p rfl;obtain ⟨va,vc,hve,hvl⟩:=hrd;subst hve;clear hvw hvl hk1 HPost;go_wp2_with fail
    refine (range_c D A a0 C k (p - k) c bp _ (by exact hP1.out.ltB) (by exact hP1.out.data) hC2 (by omega) (by omega) (by omega)).mono ?_;rintro e w2 ⟨⟨x,y,rfl⟩,hk2⟩;have hP2:=qqh (hP1.out.nil hk2);have hF2:=qqh (hF1.out.trans (Fr.nil hk2));have hRD2:=qqh (RdS.step HRD.out hk2 (fun _ _ _ _ x => x) (fun _ _ x => x) (Fresh.refl _ _));clear hk2;go_wp2_with fail
    refine (push_n D A C bp _ left nd er ns nst (by exact hP2.out) (by omega) 8 x y _ _ l (by exact hRD2.out)).mono ?_;rintro e w3 ⟨nd3,rfl,hP3,hF3⟩;have HP3:=qqh hP3;have HF3:=qqh (hF2.out.trans hF3);clear hP3 hF3;go_wp2_with fail
    go_ret3
    rw [HRV.out];exact .inl ⟨_,_,_,_,rfl,HVW.out,by rw [leafN _ _ _ _ _ (by omega)];exact HP3.out,HF3.out⟩
 ·go_enter Tryz.func91,Tryz.ntmps91;go_wp2_with fail
  refine (literal_c D A _ C k n c (.pointer (some ⟨bp,0,none⟩)) _ (by exact HP.out.doc) HV.out (by omega)).mono ?_;intro e w1 hpost;rw [HR0.out] at hpost;have HPost:=qqh hpost;clear hpost;cases r0 with
  | opn => exact absurd rfl HNO.out
  | bad =>
   have HErr:Err4 w e w1:=HPost.out;obtain ⟨⟨v,rfl,hE⟩,hk1⟩:=HErr;obtain ⟨b,rfl⟩:=Err.ptr hE;have HE:=qqh hE;have HK1:=qqh hk1;clear hE hk1;go_wp2_with fail
   go_ret3
   rw [HRV.out];exact PN.errH HP.out HK1.out HE.out hlt (Kp.refl _ _)
  | good l p =>
   obtain ⟨hk1,a0,v,a1,n1,c1,rfl,hrd,hvw⟩:=HPost.out;have HRD:=qqh (RdS.of (bp:=bp) (nd:=nd) hrd hlt (fun g hg => (HP.out.rowlt g hg).2));have HVW:=qqh hvw;have hP1:=qqh (HP.out.nil hk1);have hF1:=qqh (Fr.nil (bp:=bp) (nd:=nd) hk1);have hpn:p<=D.n:=(by have:=hvw.len;omega);have hkp:k<p:=HIN.out l p rfl;obtain ⟨va,vc,hve,hvl⟩:=hrd;subst hve;clear hvw hvl hk1 HPost;go_wp2_with fail
   refine (range_c D A a0 C k (p - k) c bp _ (by exact hP1.out.ltB) (by exact hP1.out.data) hC2 (by omega) (by omega) (by omega)).mono ?_;rintro e w2 ⟨⟨x,y,rfl⟩,hk2⟩;have hP2:=qqh (hP1.out.nil hk2);have hF2:=qqh (hF1.out.trans (Fr.nil hk2));have hRD2:=qqh (RdS.step HRD.out hk2 (fun _ _ _ _ x => x) (fun _ _ x => x) (Fresh.refl _ _));clear hk2;go_wp2_with fail
   refine (push_n D A C bp _ left nd er ns nst (by exact hP2.out) (by omega) 8 x y _ _ l (by exact hRD2.out)).mono ?_;rintro e w3 ⟨nd3,rfl,hP3,hF3⟩;have HP3:=qqh hP3;have HF3:=qqh (hF2.out.trans hF3);clear hP3 hF3;go_wp2_with fail
   go_ret3
   rw [HRV.out];exact .inl ⟨_,_,_,_,rfl,HVW.out,by rw [leafN _ _ _ _ _ (by omega)];exact HP3.out,HF3.out⟩
theorem val_step (D:Doc) (d:Nat) (hval:ValCI D d):ValCI D (d+1):=by
 intro A a C bp k n c w left nd er ns nst hP hB hv hd hno;by_cases h34:D.c k=34
 ·by_cases h3:three D 34 k
  ·exact val_dq3 D d hval A a C bp k n c w left nd er ns nst hP hB hv hd hno h34 h3
  ·exact val_dq1 D d hval A a C bp k n c w left nd er ns nst hP hB hv hd hno h34 h3
 by_cases h39:D.c k=39
 ·by_cases h3:three D 39 k
  ·exact val_sq3 D d hval A a C bp k n c w left nd er ns nst hP hB hv hd hno h39 h3
  ·exact val_sq1 D d hval A a C bp k n c w left nd er ns nst hP hB hv hd hno h39 h3
 by_cases h116:D.c k=116
 ·exact val_t D d hval A a C bp k n c w left nd er ns nst hP hB hv hd hno h116
 by_cases h102:D.c k=102
 ·exact val_f D d hval A a C bp k n c w left nd er ns nst hP hB hv hd hno h102
 by_cases h105:D.c k=105
 ·exact val_i D d hval A a C bp k n c w left nd er ns nst hP hB hv hd hno h105
 by_cases h110:D.c k=110
 ·exact val_n D d hval A a C bp k n c w left nd er ns nst hP hB hv hd hno h110
 by_cases h91:D.c k=91
 ·exact val_arr D d hval A a C bp k n c w left nd er ns nst hP hB hv hd hno h91
 by_cases h123:D.c k=123
 ·exact val_tab D d hval A a C bp k n c w left nd er ns nst hP hB hv hd hno h123
 by_cases h43:D.c k=43
 ·exact val_plus D d hval A a C bp k n c w left nd er ns nst hP hB hv hd hno h43
 by_cases h45:D.c k=45
 ·exact val_minus D d hval A a C bp k n c w left nd er ns nst hP hB hv hd hno h45
 by_cases hdg:48<=D.c k/\D.c k<=57
 ·by_cases hds:dtS D k
  ·exact val_date D d hval A a C bp k n c w left nd er ns nst hP hB hv hd hno hdg hds
  ·exact val_dig D d hval A a C bp k n c w left nd er ns nst hP hB hv hd hno hdg hds
 ·exact val_other D d hval A a C bp k n c w left nd er ns nst hP hB hv hd hno (by omega)
theorem val_ci (D:Doc):∀ d,ValCI D d
 | 0 => fun A a C bp k n c w left nd er ns nst hP hB hv hd hno => absurd (by rw [valP]) hno
 | d+1 => val_step D d (val_ci D d)
def TlPost (D:Doc) (A:Option Addr) (C:Nat) (w:World) (r:R Unit) (e:Ending) (w':World):Prop :=
 match r with
 | .good _ p => Kp Nil w w'/\∃ a n c,e=.returned (.tuple #[.slice a n c,.nilIface])/\VW D A C p a n c
 | _ => Err2 w e w'
theorem tail_c (D:Doc) (A a:Option Addr) (C bp k n c:Nat) (root:Int) (w:World) (left nd er:Value) (ns:List Nd) (nst:Nat) (hP:PN D A C bp w left nd ns er nst) (hv:VW D A C k a n c) :
  Calls Tryz.prog 82 #[.pointer (some ⟨bp,0,none⟩),.int .i32 root,.slice a n c] w (TlPost D A C w (tailP D k)):=by
 have hs:=D.small;have hC1:=hP.doc.1;have hC2:=hP.doc.2.1;have hlt:=hP.ltB;have c0:=hP.choose_spec.1.blk.cell 0 rfl;obtain ⟨r,hr⟩:∃ r,tailP D k=r:=⟨_,rfl⟩;rw [hr];have HP:=qqh hP;have HV:=qqh hv;have HR:=qqh hr;clear hP hv hr;go_enter Tryz.func82,Tryz.ntmps82;go_wp2_with fail
 refine (skip_c D A a C k n c _ (by exact HP.out.doc) HV.out).mono ?_;rintro e w1 ⟨hw1,a1,n1,c1,rfl,hv1⟩;obtain rfl:=hw1.symm;obtain ⟨k1,hk1⟩:∃ k1,wsEnd D k=k1:=⟨_,rfl⟩;rw [hk1] at hv1;have hR1:Hid (r=match cmt D k1 with | .good _ k2 => eolP D k2 | .bad => .bad | .opn => .opn):=by show _=_;rw [<- HR.out,<- hk1];rfl
 have HV1:=qqh hv1;have hl1:=qql hv1.len;have hl1':=qql hv1.len.symm;clear hk1 hv1;by_cases h35:D.c k1=35
 ·have hin:=Doc.in_of (D:=D) (k:=k1) (by omega);obtain ⟨bd,q,rfl,hb⟩:=HV1.out.bytes HP.out.doc hin;have b0:=hb 0 (by omega);simp only [Nat.add_zero] at b0;have e35:((D.c k1:Int) == 35)=true:=by rw [beq_iff_eq];omega
  have H35:=qqh h35;clear hb h35;go_wp2_with fail
  refine (scanCmt_c D A _ C k1 n1 c1 _ (by exact HP.out.doc) HV1.out hin H35.out).mono ?_;intro e w2 hpost;obtain ⟨rc,hrc⟩:∃ rc,cmtRun D k1=rc:=⟨_,rfl⟩;rw [hrc] at hpost;have hcm:Hid (cmt D k1=rc):=by show _=_;rw [<- hrc];unfold cmt;rw [if_pos H35.out]
  have HPost:=qqh hpost;clear hrc hpost;cases rc with
  | opn => exact absurd hcm.out (cmt_not_opn D k1)
  | bad =>
   obtain ⟨⟨v,rfl,hE⟩,hk2⟩:=HPost.out;have hrb:Hid (r=.bad):=(by show _=_;rw [hR1.out,hcm.out]);obtain ⟨bb,rfl⟩:=Err.ptr hE;have HE:=qqh hE;have HK2:=qqh hk2;clear hE hk2;go_wp2_with fail
   go_ret2;rw [hrb.out];exact ⟨⟨_,rfl,HE.out⟩,HK2.out⟩
  | good u k2 =>
   obtain ⟨⟨m,rfl⟩,x,a3,n3,c3,rfl,hsl,hvw⟩:=HPost.out;obtain ⟨xa,xl,xc,rfl⟩:=hsl;have hR2:Hid (r=eolP D k2):=(by show _=_;rw [hR1.out,hcm.out]);have HVW:=qqh hvw;clear hvw HPost;go_wp2_with fail
   refine (eol_c D A a3 C k2 n3 c3 _ (by exact (HP.out.nil ((Kp.refl Nil w).drewN m)).doc) HVW.out).mono ?_;intro e w4 hpost;obtain ⟨re,hre⟩:∃ re,eolP D k2=re:=⟨_,rfl⟩;rw [hre] at hpost hR2;have HPost:=qqh hpost;clear hre hpost;cases re with
   | good u k3 =>
    obtain ⟨hw4,a4,n4,c4,rfl,hv4⟩:=HPost.out;have HV4:=qqh hv4;have HW4:=qqh hw4;clear hv4 hw4;go_wp2_with fail
    go_ret2;rw [hR2.out];exact ⟨by rw [HW4.out];exact (Kp.refl Nil w).drewN m,_,_,_,rfl,HV4.out⟩
   | bad =>
    obtain ⟨⟨v,rfl,hE⟩,hk4⟩:=HPost.out;obtain ⟨bb,rfl⟩:=Err.ptr hE;have HE:=qqh hE;have HK4:=qqh hk4;clear hE hk4;go_wp2_with fail
    go_ret2;rw [hR2.out];exact ⟨⟨_,rfl,HE.out⟩,((Kp.refl Nil w).drewN m).trans HK4.out⟩
   | opn =>
    obtain ⟨⟨v,rfl,hE⟩,hk4⟩:=HPost.out;obtain ⟨bb,rfl⟩:=Err.ptr hE;have HE:=qqh hE;have HK4:=qqh hk4;clear hE hk4;go_wp2_with fail
    go_ret2;rw [hR2.out];exact ⟨⟨_,rfl,HE.out⟩,((Kp.refl Nil w).drewN m).trans HK4.out⟩
 ·have hR2:Hid (r=eolP D k1):=by show _=_;rw [hR1.out];unfold cmt;rw [if_neg h35]
  have key:∀ (e:Ending) (w4:World),EolPost D A C w (eolP D k1) e w4->TlPost D A C w r e w4:=by
   intro e w4 h;rw [hR2.out];cases hre:eolP D k1 with
   | good u k3 => rw [hre] at h;obtain ⟨rfl,h⟩:=h;exact ⟨Kp.refl _ _,h⟩
   | bad => rw [hre] at h;exact h
   | opn => rw [hre] at h;exact h
  have hret:∀ (e:Ending) (w4:World),EolPost D A C w (eolP D k1) e w4->∃ x y,e=.returned (.tuple #[x,y]):=by
   intro e w4 h;cases hre:eolP D k1 with
   | good u k3 => rw [hre] at h;obtain ⟨_,a,n,c,h,_⟩:=h;exact ⟨_,_,h⟩
   | bad => rw [hre] at h;obtain ⟨⟨v,h,_⟩,_⟩:=h;exact ⟨_,_,h⟩
   | opn => rw [hre] at h;obtain ⟨⟨v,h,_⟩,_⟩:=h;exact ⟨_,_,h⟩
  have KEY:=qqh key;have HRET:=qqh hret;clear key hret;rcases Nat.eq_zero_or_pos n1 with h0 | h0
  ·obtain rfl:=h0;clear h35;go_wp2_with fail
   refine (eol_c D A a1 C k1 0 c1 _ (by exact HP.out.doc) HV1.out).mono ?_;intro e w4 hpost;obtain ⟨x,y,rfl⟩:=HRET.out e w4 hpost;have HK:=qqh (KEY.out _ w4 hpost);clear hpost;go_wp2_with fail
   go_ret2;exact HK.out
  ·obtain ⟨bd,q,rfl,hb⟩:=HV1.out.bytes HP.out.doc (by omega);have b0:=hb 0 (by omega);simp only [Nat.add_zero] at b0;have e35:((D.c k1:Int) == 35)=false:=qqn (by omega);clear hb h35;go_wp2_with fail
   refine (eol_c D A _ C k1 n1 c1 _ (by exact HP.out.doc) HV1.out).mono ?_;intro e w4 hpost;obtain ⟨x,y,rfl⟩:=HRET.out e w4 hpost;have HK:=qqh (KEY.out _ w4 hpost);clear hpost;go_wp2_with fail
   go_ret2;exact HK.out
def hNds (K base:Nat) (ks:List (List UInt8)):List Nd:=⟨K,[],0,base+2⟩ :: keyNds (base+1) ks
def HdPost (D:Doc) (A:Option Addr) (C bp:Nat) (w:World) (nd0 left er:Value) (ns:List Nd) (nst K m:Nat) (r:R (Option Ex)) (e:Ending) (w':World):Prop :=
 match r with
 | .good o p => ∃ ks,o=some ⟨m,ks,.zero⟩/\OkH D A C bp w nd0 left er ns.length (ns++hNds K ns.length ks) nst p e w'
 | _ => ErrH D A C bp left er nst w e w'
theorem h_final (ns:List Nd) (K:Nat) (ks:List (List UInt8)) (kh:Nat) (hk:kh=ns.length+2):setChild (ns++[⟨K,[],0,0⟩]++keyNds (ns.length+1) ks) ns.length kh=ns++hNds K ns.length ks:=by
 subst hk;rw [List.append_assoc];exact setChild_right ns ([⟨K,[],0,0⟩]++keyNds (ns.length+1) ks) 0 _
theorem hd1_c (D:Doc) (A a:Option Addr) (C bp k n c:Nat) (w:World) (left nd er:Value) (ns:List Nd) (nst:Nat) (hP:PN D A C bp w left nd ns er nst) (hB:ns.length+4 * (D.n - k)<=90000000) (hv:VW D A C k a n c)
  (hk:k+1<=D.n) (hno:tblP D k 1 ≠ .opn) :
  Calls Tryz.prog 81 #[.pointer (some ⟨bp,0,none⟩),.slice a n c] w (HdPost D A C bp w nd left er ns nst 3 1 (tblP D k 1)):=by
 have hs:=D.small;have hC1:=hP.doc.1;have hC2:=hP.doc.2.1;have hlt:=hP.ltB;have hln:=qql hv.len;have hln':=qql hv.len.symm;have hcp:=qql hv.cap;have hcp':=qql hv.cap.symm;obtain ⟨r,hr⟩:∃ r,tblP D k 1=r:=⟨_,rfl⟩;rw [hr] at hno ⊢;have hKL:KL D (keyP D (k+1)) (ckRun D (wsEnd D (k+1)) []):=key_law D _ (k+1) [] rfl;obtain ⟨k0,hk0⟩:∃ k0,wsEnd D (k+1)=k0:=⟨_,rfl⟩;have hg0:=wsEnd_ge D (k+1);have hg1:=wsEnd_le D (k+1);rw [hk0] at hKL hg0 hg1;have hcno:ckRun D k0 [] ≠ .opn:=by
  intro e;rw [e] at hKL;unfold KL at hKL;cases hkr:keyP D (k+1) with
  | good ks p => rw [hkr] at hKL;cases hKL
  | bad => rw [hkr] at hKL;rcases hKL with h | ⟨_,_,h,_⟩ <;> cases h
  | opn => apply hno;rw [<- hr];unfold tblP;rw [hkr]
 obtain ⟨a0,hva,hrun⟩:=VW.from_ hv hC1 1 1 rfl (by omega);have HP:=qqh hP;have HV:=qqh hv;have HVA:=qqh hva;have HR:=qqh hr;have HNO:=qqh hno;have HKL:=qqh hKL;have HK0:=qqh hk0;have HROW:Hid (∀ g,nd.ownBlock=some g->bp<g):=fun g hg => (hP.rowlt g hg).1
 clear hP hv hva hr hno hKL hk0;go_enter Tryz.func81,Tryz.ntmps81;go_wp2_with fail
 refine (push_n D A C bp _ left nd er ns nst (by exact HP.out) (by omega) 3 0 0 (.slice none 0 0) (.pointer none) [] ⟨none,0,rfl,fun h => absurd rfl h⟩).mono ?_;rintro e w1 ⟨nd1,rfl,hP1,hF1⟩;have HP1:=qqh hP1;have HF1:=qqh hF1;have hl1:Hid ((ns++[(⟨3,[],0,0⟩:Nd)]).length=ns.length+1):=by show _=_;simp
 clear hP1 hF1;go_wp2_with fail
 refine (skip_c D A a0 C (k+1) (n - 1) (c - 1) _ (by exact HP1.out.doc) HVA.out).mono ?_;rintro e w2 ⟨hw2,a1,n1,c1,rfl,hv1⟩;obtain rfl:=hw2.symm;rw [HK0.out] at hv1;have HV1:=qqh hv1;clear hv1;go_wp2_with fail
 refine (pkey_c D A a1 C bp k0 n1 c1 _ left nd1 er (ns++[⟨3,[],0,0⟩]) nst (by exact HP1.out) (by rw [hl1.out];omega) HV1.out hcno).mono ?_;intro e w2 hpost;obtain ⟨cr,hcr⟩:∃ cr,ckRun D k0 []=cr:=⟨_,rfl⟩;rw [hcr] at hpost HKL hcno;have HCR:=qqh hcr;have HPost:=qqh hpost;have HCNO:=qqh hcno;clear hcr hpost hcno;cases cr with
 | opn => exact absurd rfl HCNO.out
 | bad =>
  obtain ⟨v,nd2,N2,xs2,rfl,hE,hPI,hKB⟩:=HPost.out;obtain ⟨b,rfl⟩:=Err.ptr hE;have HE:=qqh hE;have HPI:=qqh hPI;have HKB:=qqh hKB;have hrb:R.bad=r:=by
   rw [<- HR.out];unfold tblP;cases hkr:keyP D (k+1) with
   | good ks p => have h:=HKL.out;rw [hkr] at h;cases h
   | bad => rfl
   | opn => exfalso;apply HNO.out;rw [<- HR.out];unfold tblP;rw [hkr]
  have HRB:=qqh hrb;clear hE hPI hKB HPost hrb;go_wp2_with fail
  go_ret3
  rw [<- HRB.out];exact ⟨_,_,_,_,rfl,HE.out,HPI.out,(HF1.out.kb HROW.out).trans HKB.out⟩
 | good ks p =>
  obtain ⟨a2,n2,c2,nd2,rfl,hvw,hP2,hF2⟩:=HPost.out;obtain ⟨KH,hKH⟩:∃ KH,(ns++[(⟨3,[],0,0⟩:Nd)]).length+1=KH:=⟨_,rfl⟩;rw [hKH];have HKH:Hid (KH=ns.length+2):=by show _=_;rw [<- hKH,hl1.out]
  have hKHb:KH<=100000000:=by have:=HKH.out;omega
  clear hKH;have hkp:=ck_len D _ k0 [] ks p rfl HCR.out;have hks:ks.length<=p - k0:=by have:=hkp.2;simp at this;exact this
  have hkp1:=hkp.1;have hl2:=qql hvw.len;have hl2':=qql hvw.len.symm;have hc2:=qql hvw.cap;have hc2':=qql hvw.cap.symm;have HP2:=qqh hP2;have HF2:=qqh (HF1.out.trans hF2);have HVW:=qqh hvw;have hl3:Hid ((ns++[(⟨3,[],0,0⟩:Nd)]++keyNds (ns++[(⟨3,[],0,0⟩:Nd)]).length ks).length=ns.length+1+ks.length):=by show _=_;rw [qqa,keyNds_len,hl1.out]
  clear hvw hP2 hF2 HPost hkp HP1 HF1;have hlt2:=HP2.out.ltB;go_wp2_with fail
  refine (at_c D A C bp _ left nd2 er _ nst (by exact HP2.out) (ns.length+1) (by omega) (by rw [hl3.out];omega) (by rw [hl3.out];omega)).mono ?_;rintro e w6 ⟨⟨g,hg,rfl⟩,hw6⟩;obtain rfl:=hw6.symm;have HG:=qqh hg;clear hg;rw [Nat.add_sub_cancel];obtain ⟨⟨u6,hu6⟩,hf6⟩:=PN.cell HP2.out HG.out (7 * ns.length+6) (by rw [hl3.out];omega);have hP6:Hid (PN D A C bp (w2.setCell ⟨g,7 * ns.length+6,none⟩ (.int .i32 (KH:Nat))) left nd2 (ns++hNds 3 ns.length ks) er nst):=by
   have h:=PN.setChild HP2.out HG.out ns.length KH (by rw [hl3.out];omega);rw [hl1.out,h_final ns 3 ks KH HKH.out] at h;exact h
  have HF6:Hid (Fr bp w nd (w2.setCell ⟨g,7 * ns.length+6,none⟩ (.int .i32 (KH:Nat))) nd2):=HF2.out.trans (Fr.row HG.out _);have hR2:Hid (r=match keyP D (k+1) with | .good ks k2 => if D.c k2=93/\((1:Nat)=2->D.c (k2+1)=93) then .good (some ⟨1,ks,.zero⟩) (k2+1) else .bad | .bad => .bad | .opn => .opn):=HR.out.symm;have hgood:Hid ((D.c p=93/\((1:Nat)=2->D.c (p+1)=93))->r=.good (some ⟨1,ks,.zero⟩) (p+1)):=by
   intro h93;have h:=HKL.out;cases hkr:keyP D (k+1) with
   | good ks' p' =>
    rw [hkr] at h;injection h with e1 e2;subst e1 e2;rw [<- HR.out];unfold tblP;rw [hkr];dsimp only;rw [if_pos h93]
   | bad =>
    rw [hkr] at h;rcases h with h | ⟨ks',p',h,hq⟩
    ·cases h
    ·injection h with e1 e2;subst e2;omega
   | opn => exfalso;apply HNO.out;rw [<- HR.out];unfold tblP;rw [hkr]
  have hbad:Hid (¬ (D.c p=93/\((1:Nat)=2->D.c (p+1)=93))->r=.bad):=by
   intro h93;have h:=HKL.out;cases hkr:keyP D (k+1) with
   | good ks' p' =>
    rw [hkr] at h;injection h with e1 e2;subst e1 e2;rw [<- HR.out];unfold tblP;rw [hkr];dsimp only;rw [if_neg h93]
   | bad => rw [<- HR.out];unfold tblP;rw [hkr]
   | opn => exfalso;apply HNO.out;rw [<- HR.out];unfold tblP;rw [hkr]
  clear hR2;rcases Nat.eq_zero_or_pos n2 with h0 | h0
  ·have HRB:Hid (r=.bad):=hbad.out (by have:=D.out p (by omega);omega);obtain rfl:=h0;go_wp2_with fail
   refine (hl1_c D A _ C p 0 c2 _ hC1 HVW.out).mono ?_;rintro e w7 ⟨⟨m1,rfl,hm1⟩,hw7⟩;obtain rfl:=hw7;go_wp2_with fail
   refine (newErr_c _ _ _ _ _ (by omega)).mono ?_;rintro e w8 ⟨⟨v,rfl,hE⟩,hk8⟩;go_wp2_with fail
   go_ret3
   rw [HRB.out];exact PN.errH hP6.out hk8 hE (by have:=hP6.out.ltB;exact this) (HF6.out.kb HROW.out)
  obtain ⟨bd,q,rfl,hb⟩:=HVW.out.bytes HP2.out.doc (by omega);have hb6:=(World.cell?_of_block (w:=w2) (w':=w2.setCell ⟨g,7 * ns.length+6,none⟩ (.int .i32 (KH:Nat))) (a:=⟨bd,q,none⟩) (Below.heap_setCell _ _ _ _ (by intro e;have e:bd=g:=e;subst e;have h1:=HP2.out.apartA;obtain ⟨bd',o',e1,e2⟩:=HVW.out.at_ (by omega);injection e2 with e2;injection e2 with e2 e3;exact (h1 _ e1).2.1 (by rw [HG.out];exact congrArg some e2.symm)))).trans (by have:=hb 0 (by omega);simp only [Nat.add_zero] at this;exact this);clear hb;by_cases h93:D.c p=93
  ·have HRG:Hid (r=.good (some ⟨1,ks,.zero⟩) (p+1)):=hgood.out ⟨h93,fun h => by omega⟩;have e93:((D.c (p):Int) != 93)=false:=(by rw [bne_eq_false_iff_eq];omega);clear h93;obtain ⟨a7,hv7,hrun7⟩:=VW.from_ HVW.out hC1 1 1 rfl (by omega);have HV7:=qqh hv7;clear hv7;go_wp2_with fail
   go_quiet (fail)
   go_wp2_with fail
   go_ret3
   rw [HRG.out];exact ⟨ks,rfl,_,_,_,_,rfl,HV7.out,hP6.out.nil ((Kp.refl Nil _).drewN _),HF6.out.trans (Fr.nil ((Kp.refl Nil _).drewN _))⟩
  ·have HRB:Hid (r=.bad):=hbad.out (fun h => h93 h.1);have e93:((D.c (p):Int) != 93)=true:=(by rw [bne_iff_ne];omega);clear h93;go_wp2_with fail
   refine (hl1_c D A _ C p n2 c2 _ hC1 HVW.out).mono ?_;rintro e w7 ⟨⟨m1,rfl,hm1⟩,hw7⟩;obtain rfl:=hw7;go_wp2_with fail
   refine (newErr_c _ _ _ _ _ (by omega)).mono ?_;rintro e w8 ⟨⟨v,rfl,hE⟩,hk8⟩;go_wp2_with fail
   go_ret3
   rw [HRB.out];exact PN.errH hP6.out hk8 hE (by have:=hP6.out.ltB;exact this) (HF6.out.kb HROW.out)
theorem hd2_c (D:Doc) (A a:Option Addr) (C bp k n c:Nat) (w:World) (left nd er:Value) (ns:List Nd) (nst:Nat) (hP:PN D A C bp w left nd ns er nst) (hB:ns.length+4 * (D.n - k)<=90000000) (hv:VW D A C k a n c)
  (hk:k+2<=D.n) (hno:tblP D k 2 ≠ .opn) :
  Calls Tryz.prog 80 #[.pointer (some ⟨bp,0,none⟩),.slice a n c] w (HdPost D A C bp w nd left er ns nst 4 2 (tblP D k 2)):=by
 have hs:=D.small;have hC1:=hP.doc.1;have hC2:=hP.doc.2.1;have hlt:=hP.ltB;have hln:=qql hv.len;have hln':=qql hv.len.symm;have hcp:=qql hv.cap;have hcp':=qql hv.cap.symm;obtain ⟨r,hr⟩:∃ r,tblP D k 2=r:=⟨_,rfl⟩;rw [hr] at hno ⊢;have hKL:KL D (keyP D (k+2)) (ckRun D (wsEnd D (k+2)) []):=key_law D _ (k+2) [] rfl;obtain ⟨k0,hk0⟩:∃ k0,wsEnd D (k+2)=k0:=⟨_,rfl⟩;have hg0:=wsEnd_ge D (k+2);have hg1:=wsEnd_le D (k+2);rw [hk0] at hKL hg0 hg1;have hcno:ckRun D k0 [] ≠ .opn:=by
  intro e;rw [e] at hKL;unfold KL at hKL;cases hkr:keyP D (k+2) with
  | good ks p => rw [hkr] at hKL;cases hKL
  | bad => rw [hkr] at hKL;rcases hKL with h | ⟨_,_,h,_⟩ <;> cases h
  | opn => apply hno;rw [<- hr];unfold tblP;rw [hkr]
 obtain ⟨a0,hva,hrun⟩:=VW.from_ hv hC1 2 2 rfl (by omega);have HP:=qqh hP;have HV:=qqh hv;have HVA:=qqh hva;have HR:=qqh hr;have HNO:=qqh hno;have HKL:=qqh hKL;have HK0:=qqh hk0;have HROW:Hid (∀ g,nd.ownBlock=some g->bp<g):=fun g hg => (hP.rowlt g hg).1
 clear hP hv hva hr hno hKL hk0;go_enter Tryz.func80,Tryz.ntmps80;go_wp2_with fail
 refine (push_n D A C bp _ left nd er ns nst (by exact HP.out) (by omega) 4 0 0 (.slice none 0 0) (.pointer none) [] ⟨none,0,rfl,fun h => absurd rfl h⟩).mono ?_;rintro e w1 ⟨nd1,rfl,hP1,hF1⟩;have HP1:=qqh hP1;have HF1:=qqh hF1;have hl1:Hid ((ns++[(⟨4,[],0,0⟩:Nd)]).length=ns.length+1):=by show _=_;simp
 clear hP1 hF1;go_wp2_with fail
 refine (skip_c D A a0 C (k+2) (n - 2) (c - 2) _ (by exact HP1.out.doc) HVA.out).mono ?_;rintro e w2 ⟨hw2,a1,n1,c1,rfl,hv1⟩;obtain rfl:=hw2.symm;rw [HK0.out] at hv1;have HV1:=qqh hv1;clear hv1;go_wp2_with fail
 refine (pkey_c D A a1 C bp k0 n1 c1 _ left nd1 er (ns++[⟨4,[],0,0⟩]) nst (by exact HP1.out) (by rw [hl1.out];omega) HV1.out hcno).mono ?_;intro e w2 hpost;obtain ⟨cr,hcr⟩:∃ cr,ckRun D k0 []=cr:=⟨_,rfl⟩;rw [hcr] at hpost HKL hcno;have HCR:=qqh hcr;have HPost:=qqh hpost;have HCNO:=qqh hcno;clear hcr hpost hcno;cases cr with
 | opn => exact absurd rfl HCNO.out
 | bad =>
  obtain ⟨v,nd2,N2,xs2,rfl,hE,hPI,hKB⟩:=HPost.out;obtain ⟨b,rfl⟩:=Err.ptr hE;have HE:=qqh hE;have HPI:=qqh hPI;have HKB:=qqh hKB;have hrb:R.bad=r:=by
   rw [<- HR.out];unfold tblP;cases hkr:keyP D (k+2) with
   | good ks p => have h:=HKL.out;rw [hkr] at h;cases h
   | bad => rfl
   | opn => exfalso;apply HNO.out;rw [<- HR.out];unfold tblP;rw [hkr]
  have HRB:=qqh hrb;clear hE hPI hKB HPost hrb;go_wp2_with fail
  go_ret3
  rw [<- HRB.out];exact ⟨_,_,_,_,rfl,HE.out,HPI.out,(HF1.out.kb HROW.out).trans HKB.out⟩
 | good ks p =>
  obtain ⟨a2,n2,c2,nd2,rfl,hvw,hP2,hF2⟩:=HPost.out;obtain ⟨KH,hKH⟩:∃ KH,(ns++[(⟨4,[],0,0⟩:Nd)]).length+1=KH:=⟨_,rfl⟩;rw [hKH];have HKH:Hid (KH=ns.length+2):=by show _=_;rw [<- hKH,hl1.out]
  have hKHb:KH<=100000000:=by have:=HKH.out;omega
  clear hKH;have hkp:=ck_len D _ k0 [] ks p rfl HCR.out;have hks:ks.length<=p - k0:=by have:=hkp.2;simp at this;exact this
  have hkp1:=hkp.1;have hl2:=qql hvw.len;have hl2':=qql hvw.len.symm;have hc2:=qql hvw.cap;have hc2':=qql hvw.cap.symm;have HP2:=qqh hP2;have HF2:=qqh (HF1.out.trans hF2);have HVW:=qqh hvw;have hl3:Hid ((ns++[(⟨4,[],0,0⟩:Nd)]++keyNds (ns++[(⟨4,[],0,0⟩:Nd)]).length ks).length=ns.length+1+ks.length):=by show _=_;rw [qqa,keyNds_len,hl1.out]
  clear hvw hP2 hF2 HPost hkp HP1 HF1;have hlt2:=HP2.out.ltB;go_wp2_with fail
  refine (at_c D A C bp _ left nd2 er _ nst (by exact HP2.out) (ns.length+1) (by omega) (by rw [hl3.out];omega) (by rw [hl3.out];omega)).mono ?_;rintro e w6 ⟨⟨g,hg,rfl⟩,hw6⟩;obtain rfl:=hw6.symm;have HG:=qqh hg;clear hg;rw [Nat.add_sub_cancel];obtain ⟨⟨u6,hu6⟩,hf6⟩:=PN.cell HP2.out HG.out (7 * ns.length+6) (by rw [hl3.out];omega);have hP6:Hid (PN D A C bp (w2.setCell ⟨g,7 * ns.length+6,none⟩ (.int .i32 (KH:Nat))) left nd2 (ns++hNds 4 ns.length ks) er nst):=by
   have h:=PN.setChild HP2.out HG.out ns.length KH (by rw [hl3.out];omega);rw [hl1.out,h_final ns 4 ks KH HKH.out] at h;exact h
  have HF6:Hid (Fr bp w nd (w2.setCell ⟨g,7 * ns.length+6,none⟩ (.int .i32 (KH:Nat))) nd2):=HF2.out.trans (Fr.row HG.out _);have hR2:Hid (r=match keyP D (k+2) with | .good ks k2 => if D.c k2=93/\((2:Nat)=2->D.c (k2+1)=93) then .good (some ⟨2,ks,.zero⟩) (k2+2) else .bad | .bad => .bad | .opn => .opn):=HR.out.symm;have hgood:Hid ((D.c p=93/\((2:Nat)=2->D.c (p+1)=93))->r=.good (some ⟨2,ks,.zero⟩) (p+2)):=by
   intro h93;have h:=HKL.out;cases hkr:keyP D (k+2) with
   | good ks' p' =>
    rw [hkr] at h;injection h with e1 e2;subst e1 e2;rw [<- HR.out];unfold tblP;rw [hkr];dsimp only;rw [if_pos h93]
   | bad =>
    rw [hkr] at h;rcases h with h | ⟨ks',p',h,hq⟩
    ·cases h
    ·injection h with e1 e2;subst e2;omega
   | opn => exfalso;apply HNO.out;rw [<- HR.out];unfold tblP;rw [hkr]
  have hbad:Hid (¬ (D.c p=93/\((2:Nat)=2->D.c (p+1)=93))->r=.bad):=by
   intro h93;have h:=HKL.out;cases hkr:keyP D (k+2) with
   | good ks' p' =>
    rw [hkr] at h;injection h with e1 e2;subst e1 e2;rw [<- HR.out];unfold tblP;rw [hkr];dsimp only;rw [if_neg h93]
   | bad => rw [<- HR.out];unfold tblP;rw [hkr]
   | opn => exfalso;apply HNO.out;rw [<- HR.out];unfold tblP;rw [hkr]
  clear hR2;rcases qqg n2 2 with h0 | h0
  ·have HRB:Hid (r=.bad):=hbad.out (by have:=D.out (p+1) (by omega);intro h;have:=h.2 rfl;omega);go_wp2_with fail
   refine (hl1_c D A _ C p n2 c2 _ hC1 HVW.out).mono ?_;rintro e w7 ⟨⟨m1,rfl,hm1⟩,hw7⟩;obtain rfl:=hw7;go_wp2_with fail
   refine (newErr_c _ _ _ _ _ (by omega)).mono ?_;rintro e w8 ⟨⟨v,rfl,hE⟩,hk8⟩;go_wp2_with fail
   go_ret3
   rw [HRB.out];exact PN.errH hP6.out hk8 hE (by have:=hP6.out.ltB;exact this) (HF6.out.kb HROW.out)
  obtain ⟨bd,q,rfl,hb⟩:=HVW.out.bytes HP2.out.doc (by omega);have hbc:∀ i,p+i<D.n->(w2.setCell ⟨g,7 * ns.length+6,none⟩ (.int .i32 (KH:Nat))).cell? ⟨bd,q+i,none⟩=some (.int .u8 (D.c (p+i))):=fun i hi => (World.cell?_of_block (w:=w2) (a:=⟨bd,q+i,none⟩) (Below.heap_setCell _ _ _ _ (by intro e;have e:bd=g:=e;subst e;have h1:=HP2.out.apartA;obtain ⟨bd',o',e1,e2⟩:=HVW.out.at_ (by omega);injection e2 with e2;injection e2 with e2 e3;exact (h1 _ e1).2.1 (by rw [HG.out];exact congrArg some e2.symm)))).trans (hb i hi)
  have hb0:=hbc 0 (by omega);have hb1:=hbc 1 (by omega);simp only [Nat.add_zero] at hb0;clear hb hbc;by_cases h93:D.c p=93
  ·by_cases h931:D.c (p+1)=93
   ·have HRG:Hid (r=.good (some ⟨2,ks,.zero⟩) (p+2)):=hgood.out ⟨h93,fun _ => h931⟩;have e93:((D.c (p):Int) != 93)=false:=(by rw [bne_eq_false_iff_eq];omega);have e931:((D.c (p+1):Int) != 93)=false:=(by rw [bne_eq_false_iff_eq];omega);clear h93 h931;obtain ⟨a7,hv7,hrun7⟩:=VW.from_ HVW.out hC1 2 2 rfl (by omega);have HV7:=qqh hv7;clear hv7;go_wp2_with fail
    go_quiet (fail)
    go_wp2_with fail
    go_ret3
    rw [HRG.out];exact ⟨ks,rfl,_,_,_,_,rfl,HV7.out,hP6.out.nil ((Kp.refl Nil _).drewN _),HF6.out.trans (Fr.nil ((Kp.refl Nil _).drewN _))⟩
   ·have HRB:Hid (r=.bad):=hbad.out (fun h => h931 (h.2 rfl));have e93:((D.c (p):Int) != 93)=false:=(by rw [bne_eq_false_iff_eq];omega);have e931:((D.c (p+1):Int) != 93)=true:=(by rw [bne_iff_ne];omega);clear h93 h931;go_wp2_with fail
    refine (hl1_c D A _ C p n2 c2 _ hC1 HVW.out).mono ?_;rintro e w7 ⟨⟨m1,rfl,hm1⟩,hw7⟩;obtain rfl:=hw7;go_wp2_with fail
    refine (newErr_c _ _ _ _ _ (by omega)).mono ?_;rintro e w8 ⟨⟨v,rfl,hE⟩,hk8⟩;go_wp2_with fail
    go_ret3
    rw [HRB.out];exact PN.errH hP6.out hk8 hE (by have:=hP6.out.ltB;exact this) (HF6.out.kb HROW.out)
  ·have HRB:Hid (r=.bad):=hbad.out (fun h => h93 h.1);have e93:((D.c (p):Int) != 93)=true:=(by rw [bne_iff_ne];omega);clear h93;go_wp2_with fail
   refine (hl1_c D A _ C p n2 c2 _ hC1 HVW.out).mono ?_;rintro e w7 ⟨⟨m1,rfl,hm1⟩,hw7⟩;obtain rfl:=hw7;go_wp2_with fail
   refine (newErr_c _ _ _ _ _ (by omega)).mono ?_;rintro e w8 ⟨⟨v,rfl,hE⟩,hk8⟩;go_wp2_with fail
   go_ret3
   rw [HRB.out];exact PN.errH hP6.out hk8 hE (by have:=hP6.out.ltB;exact this) (HF6.out.kb HROW.out)
def exNds (N:Nat) (x:Ex):List Nd:=if x.kind=0 then kvNds N 0 x.keys x.val else hNds (x.kind+2) N x.keys
def lnThen (o:Option Ex):R Unit->R (Option Ex) | .good _ k2 => .good o k2 | .bad => .bad | .opn => .opn
def lnP (D:Doc) (k:Nat):R (Option Ex):=match headP D k with | .good o k1 => lnThen o (tailP D k1) | .bad => .bad | .opn => .opn
def ErrL (D:Doc) (A:Option Addr) (C bp:Nat) (left er:Value) (nst:Nat) (w0:World) (e:Ending) (w':World):Prop :=
 ∃ v nd N xs,e=.returned (.tuple #[.slice none 0 0,v])/\Err w' (bp+1) v/\PI D A C bp w' left nd N xs er nst/\KB bp w0 w'
def LnPost (D:Doc) (A:Option Addr) (C bp:Nat) (w:World) (nd0 left er:Value) (ns:List Nd) (nst:Nat) (r:R (Option Ex)) (e:Ending) (w':World):Prop :=
 match r with
 | .good o p => ∃ x,o=some x/\∃ a n c nd,e=.returned (.tuple #[.slice a n c,.nilIface])/\VW D A C p a n c/\PN D A C bp w' left nd (ns++exNds ns.length x) er nst/\Fr bp w nd0 w' nd
 | _ => ErrL D A C bp left er nst w e w'
theorem tailP_ctx {D:Doc} {p:Nat} (h:ctxB D p):tailP D p=.bad:=by
 have h1:=(ctxB_char h).1;have h2:=(ctxB_no h).1;have h3:=(ctxB_char h).2.2.2;unfold lstO at h1;unfold tailP;rw [h2.stop];have hc:cmt D p=.good () p:=by unfold cmt;rw [if_neg (by omega)]
 rw [hc];have hin:=Doc.in_of h3;show eolP D p=.bad;unfold eolP;rw [if_neg (by omega),if_pos (by unfold nlen;rw [if_neg (by omega),if_neg (by omega)])]
theorem tailP_opn (D:Doc) (k:Nat):tailP D k ≠ .opn:=by
 unfold tailP;cases h:cmt D (wsEnd D k) with
 | good u k2 => dsimp only;unfold eolP;split;(intro h;cases h);split;(intro h;cases h);(intro h;cases h)
 | bad => intro h;cases h
 | opn => exact absurd h (cmt_not_opn D _)
theorem kvP_eq (D:Doc) (k:Nat):kvP D k=match kvR2 D (valP D 51) k with | .good x p => .good (some ⟨0,x.1,x.2⟩) p | .bad => .bad | .opn => .opn:=by
 unfold kvP kvR2;cases hk:keyP D k with
 | good ks k1 =>
  dsimp only;by_cases h61:D.c k1=61
  ·rw [if_pos h61,if_pos h61];cases hv:valP D 51 (wsEnd D (k1+1)) with
   | good t p => rfl
   | bad => rfl
   | opn => rfl
  ·rw [if_neg h61,if_neg h61]
 | bad => rfl
 | opn => rfl
theorem PN.errL {D:Doc} {A:Option Addr} {C bp:Nat} {w w1:World} {left nd er v:Value} {ns:List Nd} {nst base:Nat} (h:PN D A C bp w left nd ns er nst) (k:Kp Nil w w1) (hE:Err w1 base v) (hb:bp<base) {w0:World} (f:KB bp w0 w) :
  ErrL D A C bp left er nst w0 (.returned (.tuple #[.slice none 0 0,v])) w1:=by
 obtain ⟨xs,h1,h2⟩:=h.nil k;exact ⟨_,_,_,_,rfl,Err.mono hE (by omega),h1,f.trans (KB.nil k)⟩
theorem ekv_c (D:Doc) (A a:Option Addr) (C bp k n c:Nat) (w:World) (left nd er:Value) (ns:List Nd) (nst:Nat) (hP:PN D A C bp w left nd ns er nst) (hB:ns.length+4 * (D.n - k)<=90000000) (hv:VW D A C k a n c)
  (hd:nst<=49) (hk:k<D.n/\D.c k ≠ 35/\D.c k ≠ 10/\D.c k ≠ 13) (h91:D.c k ≠ 91) (hw:noWs D k) (hno:lnP D k ≠ .opn) :
  Calls Tryz.prog 59 #[.pointer (some ⟨bp,0,none⟩),.slice a n c] w (LnPost D A C bp w nd left er ns nst (lnP D k)):=by
 have hs:=D.small;have hC1:=hP.doc.1;have hC2:=hP.doc.2.1;have hln:=qql hv.len;have hln':=qql hv.len.symm;obtain ⟨r,hr⟩:∃ r,lnP D k=r:=⟨_,rfl⟩;rw [hr] at hno ⊢;have HROW:Hid (∀ g,nd.ownBlock=some g->bp<g):=fun g hg => (hP.rowlt g hg).1
 have HP:=qqh hP;have HV:=qqh hv;have HR:=qqh hr;have HNO:=qqh hno;have hhd:headP D k=kvP D k:=by unfold headP;rw [if_neg h91,if_pos hk]
 obtain ⟨rk,hrk⟩:∃ rk,kvR2 D (valP D 51) k=rk:=⟨_,rfl⟩;have hkv:=kvP_eq D k;rw [hrk] at hkv;have hkno:rk ≠ .opn:=fun e => hno (by rw [<- hr];unfold lnP;rw [hhd,hkv,e])
 have HRK:=qqh hrk;have HKV:=qqh hkv;have HHD:=qqh hhd;have HKNO:=qqh hkno;clear hP hv hr hno hhd hrk hkv hkno h91 hk;go_enter Tryz.func59,Tryz.ntmps59;go_wp2_with fail
 refine (kv_c D 51 (val_ci D 51) A a C bp k n c _ left nd er ns nst (by exact HP.out) hB HV.out (by omega) hw (by rw [HRK.out];exact HKNO.out)).mono ?_;intro e w1 hpost;rw [HRK.out] at hpost;have HPost:=qqh hpost;clear hpost;have hcase:(∃ x p,rk=.good x p/\OkH D A C bp w nd left er ns.length (ns++kvNds ns.length 0 x.1 x.2) nst p e w1)\/(r=.bad/\ErrH D A C bp left er nst w e w1):=by
  cases rk with
  | good x p =>
   rcases HPost.out with h | ⟨h1,h2⟩
   ·exact .inl ⟨x,p,rfl,h⟩
   ·exact .inr ⟨by rw [<- HR.out];unfold lnP;rw [HHD.out,HKV.out];dsimp only;rw [tailP_ctx h2];rfl,h1⟩
  | bad => exact .inr ⟨by rw [<- HR.out];unfold lnP;rw [HHD.out,HKV.out],HPost.out⟩
  | opn => exact absurd rfl HKNO.out
 rcases hcase with ⟨x,p,rfl,a1,n1,c1,nd1,rfl,hvw,hP1,hF1⟩ | ⟨hrb,herr⟩
 ·have HLN:Hid (lnP D k=lnThen (some ⟨0,x.1,x.2⟩) (tailP D p)):=by show _=_;unfold lnP;rw [HHD.out,HKV.out]
  have HP1:Hid (PN D A C bp w1 left nd1 (ns++exNds ns.length ⟨0,x.1,x.2⟩) er nst):=hP1;have HF1:=qqh hF1;have HV1:=qqh hvw;clear hP1 hF1 hvw HPost;obtain ⟨rt,hrt⟩:∃ rt,tailP D p=rt:=⟨_,rfl⟩;have HRT:=qqh hrt;have hto:rt ≠ .opn:=by rw [<- hrt];exact tailP_opn D p
  clear hrt;go_wp2_with fail
  refine (tail_c D A a1 C bp p n1 c1 _ _ left nd1 er _ nst (by exact HP1.out) HV1.out).mono ?_;intro e w2 hpost;rw [HRT.out] at hpost;have HPost:=qqh hpost;clear hpost;cases rt with
  | opn => exact absurd rfl hto
  | bad =>
   obtain ⟨⟨v,rfl,hE⟩,hk2⟩:=HPost.out;have HRB:Hid (r=.bad):=(by show _=_;rw [<- HR.out,HLN.out,HRT.out];rfl);obtain ⟨bb,rfl⟩:=Err.ptr hE;have HE:=qqh hE;have HK2:=qqh hk2;clear hE hk2;go_wp2_with fail
   go_ret2;rw [HRB.out];exact PN.errL HP1.out HK2.out HE.out HP1.out.ltB (HF1.out.kb HROW.out)
  | good u k2 =>
   obtain ⟨hk2,a3,n3,c3,rfl,hv3⟩:=HPost.out;have HRG:Hid (r=.good (some ⟨0,x.1,x.2⟩) k2):=(by show _=_;rw [<- HR.out,HLN.out,HRT.out];rfl);have HV3:=qqh hv3;have HK2:=qqh hk2;clear hv3 hk2 HPost;go_wp2_with fail
   go_ret2;rw [HRG.out];exact ⟨_,rfl,_,_,_,_,rfl,HV3.out,HP1.out.nil HK2.out,HF1.out.trans (Fr.nil HK2.out)⟩
 ·have HRB:=qqh hrb;clear hrb;obtain ⟨v,nd5,N5,xs5,rfl,hE,hPI,hKB⟩:=herr;obtain ⟨bb,rfl⟩:=Err.ptr hE;have HE:=qqh hE;have HPI:=qqh hPI;have HKB:=qqh hKB;clear hE hPI hKB;go_wp2_with fail
  go_ret2;rw [HRB.out];exact ⟨_,_,_,_,rfl,HE.out,HPI.out,HKB.out⟩
theorem headP_tbl {D:Doc} {k:Nat} (h:D.c k=91):headP D k=if D.c (k+1)=91 then tblP D k 2 else tblP D k 1:=by unfold headP;rw [if_pos h]
theorem etb_c (D:Doc) (A a:Option Addr) (C bp k n c:Nat) (w:World) (left nd er:Value) (ns:List Nd) (nst:Nat) (hP:PN D A C bp w left nd ns er nst) (hB:ns.length+4 * (D.n - k)<=90000000) (hv:VW D A C k a n c)
  (h91:D.c k=91) (hno:lnP D k ≠ .opn) :
  Calls Tryz.prog 58 #[.pointer (some ⟨bp,0,none⟩),.slice a n c] w (LnPost D A C bp w nd left er ns nst (lnP D k)):=by
 have hs:=D.small;have hC1:=hP.doc.1;have hC2:=hP.doc.2.1;have hln:=qql hv.len;have hln':=qql hv.len.symm;obtain ⟨r,hr⟩:∃ r,lnP D k=r:=⟨_,rfl⟩;rw [hr] at hno ⊢;have HROW:Hid (∀ g,nd.ownBlock=some g->bp<g):=fun g hg => (hP.rowlt g hg).1
 have HP:=qqh hP;have HV:=qqh hv;have HR:=qqh hr;have HNO:=qqh hno;have hin:=Doc.in_of (D:=D) (k:=k) (by omega);have hhd:=headP_tbl h91;obtain ⟨bd,q,rfl,hb⟩:=hv.bytes hP.doc hin;have HB:=qqh hb;clear hP hv hr hno h91 hb;by_cases h912:D.c (k+1)=91
 ·have hin1:=Doc.in_of (D:=D) (k:=k+1) (by omega);have b1:=HB.out 1 (by omega);have e91:((D.c (k+1):Int) == 91)=true:=by rw [beq_iff_eq];omega
  rw [if_pos h912] at hhd;clear h912;have HHD:Hid (headP D k=tblP D k 2):=hhd;obtain ⟨rk,hrk⟩:∃ rk,tblP D k 2=rk:=⟨_,rfl⟩;have hkno:rk ≠ .opn:=fun e => HNO.out (by rw [<- HR.out];unfold lnP;rw [HHD.out,hrk,e])
  have HRK:=qqh hrk;have HKNO:=qqh hkno;clear hhd hrk hkno;go_enter Tryz.func58,Tryz.ntmps58;go_wp2_with fail
  refine (hd2_c D A _ C bp k n c _ left nd er ns nst (by exact HP.out) hB HV.out (by omega) (by rw [HRK.out];exact HKNO.out)).mono ?_;intro e w1 hpost;rw [HRK.out] at hpost;have HPost:=qqh hpost;clear hpost;cases rk with
  | opn => exact absurd rfl HKNO.out
  | bad =>
   have herr:ErrH D A C bp left er nst w e w1:=HPost.out;have HRB:Hid (r=.bad):=(by show _=_;rw [<- HR.out];unfold lnP;rw [HHD.out,HRK.out]);obtain ⟨v,nd5,N5,xs5,rfl,hE,hPI,hKB⟩:=herr;obtain ⟨bb,rfl⟩:=Err.ptr hE;have HE:=qqh hE;have HPI:=qqh hPI;have HKB:=qqh hKB;clear hE hPI hKB;go_wp2_with fail
   go_ret2;rw [HRB.out];exact ⟨_,_,_,_,rfl,HE.out,HPI.out,HKB.out⟩
  | good o p =>
   obtain ⟨ks,rfl,a1,n1,c1,nd1,rfl,hvw,hP1,hF1⟩:=HPost.out;have HLN:Hid (lnP D k=lnThen (some ⟨2,ks,.zero⟩) (tailP D p)):=(by show _=_;unfold lnP;rw [HHD.out,HRK.out]);have HP1:Hid (PN D A C bp w1 left nd1 (ns++exNds ns.length ⟨2,ks,.zero⟩) er nst):=hP1;have HF1:=qqh hF1;have HV1:=qqh hvw;clear hP1 hF1 hvw HPost;obtain ⟨rt,hrt⟩:∃ rt,tailP D p=rt:=⟨_,rfl⟩;have HRT:=qqh hrt;have hto:rt ≠ .opn:=(by rw [<- hrt];exact tailP_opn D p);clear hrt;go_wp2_with fail
   refine (tail_c D A a1 C bp p n1 c1 _ _ left nd1 er _ nst (by exact HP1.out) HV1.out).mono ?_;intro e w2 hpost;rw [HRT.out] at hpost;have HPost:=qqh hpost;clear hpost;cases rt with
   | opn => exact absurd rfl hto
   | bad =>
    obtain ⟨⟨v,rfl,hE⟩,hk2⟩:=HPost.out;have HRB:Hid (r=.bad):=(by show _=_;rw [<- HR.out,HLN.out,HRT.out];rfl);obtain ⟨bb,rfl⟩:=Err.ptr hE;have HE:=qqh hE;have HK2:=qqh hk2;clear hE hk2;go_wp2_with fail
    go_ret2;rw [HRB.out];exact PN.errL HP1.out HK2.out HE.out HP1.out.ltB (HF1.out.kb HROW.out)
   | good u k2 =>
    obtain ⟨hk2,a3,n3,c3,rfl,hv3⟩:=HPost.out;have HRG:Hid (r=.good (some ⟨2,ks,.zero⟩) k2):=(by show _=_;rw [<- HR.out,HLN.out,HRT.out];rfl);have HV3:=qqh hv3;have HK2:=qqh hk2;clear hv3 hk2 HPost;go_wp2_with fail
    go_ret2;rw [HRG.out];exact ⟨_,rfl,_,_,_,_,rfl,HV3.out,HP1.out.nil HK2.out,HF1.out.trans (Fr.nil HK2.out)⟩
 rw [if_neg h912] at hhd;rcases qqg 1 n with hl | hl
 ·have b1:=HB.out 1 (by omega);have e91:((D.c (k+1):Int) == 91)=false:=qqn (by omega);clear h912;have HHD:Hid (headP D k=tblP D k 1):=hhd;obtain ⟨rk,hrk⟩:∃ rk,tblP D k 1=rk:=⟨_,rfl⟩;have hkno:rk ≠ .opn:=fun e => HNO.out (by rw [<- HR.out];unfold lnP;rw [HHD.out,hrk,e])
  have HRK:=qqh hrk;have HKNO:=qqh hkno;clear hhd hrk hkno;go_enter Tryz.func58,Tryz.ntmps58;go_wp2_with fail
  refine (hd1_c D A _ C bp k n c _ left nd er ns nst (by exact HP.out) hB HV.out (by omega) (by rw [HRK.out];exact HKNO.out)).mono ?_;intro e w1 hpost;rw [HRK.out] at hpost;have HPost:=qqh hpost;clear hpost;cases rk with
  | opn => exact absurd rfl HKNO.out
  | bad =>
   have herr:ErrH D A C bp left er nst w e w1:=HPost.out;have HRB:Hid (r=.bad):=(by show _=_;rw [<- HR.out];unfold lnP;rw [HHD.out,HRK.out]);obtain ⟨v,nd5,N5,xs5,rfl,hE,hPI,hKB⟩:=herr;obtain ⟨bb,rfl⟩:=Err.ptr hE;have HE:=qqh hE;have HPI:=qqh hPI;have HKB:=qqh hKB;clear hE hPI hKB;go_wp2_with fail
   go_ret2;rw [HRB.out];exact ⟨_,_,_,_,rfl,HE.out,HPI.out,HKB.out⟩
  | good o p =>
   obtain ⟨ks,rfl,a1,n1,c1,nd1,rfl,hvw,hP1,hF1⟩:=HPost.out;have HLN:Hid (lnP D k=lnThen (some ⟨1,ks,.zero⟩) (tailP D p)):=(by show _=_;unfold lnP;rw [HHD.out,HRK.out]);have HP1:Hid (PN D A C bp w1 left nd1 (ns++exNds ns.length ⟨1,ks,.zero⟩) er nst):=hP1;have HF1:=qqh hF1;have HV1:=qqh hvw;clear hP1 hF1 hvw HPost;obtain ⟨rt,hrt⟩:∃ rt,tailP D p=rt:=⟨_,rfl⟩;have HRT:=qqh hrt;have hto:rt ≠ .opn:=(by rw [<- hrt];exact tailP_opn D p);clear hrt;go_wp2_with fail
   refine (tail_c D A a1 C bp p n1 c1 _ _ left nd1 er _ nst (by exact HP1.out) HV1.out).mono ?_;intro e w2 hpost;rw [HRT.out] at hpost;have HPost:=qqh hpost;clear hpost;cases rt with
   | opn => exact absurd rfl hto
   | bad =>
    obtain ⟨⟨v,rfl,hE⟩,hk2⟩:=HPost.out;have HRB:Hid (r=.bad):=(by show _=_;rw [<- HR.out,HLN.out,HRT.out];rfl);obtain ⟨bb,rfl⟩:=Err.ptr hE;have HE:=qqh hE;have HK2:=qqh hk2;clear hE hk2;go_wp2_with fail
    go_ret2;rw [HRB.out];exact PN.errL HP1.out HK2.out HE.out HP1.out.ltB (HF1.out.kb HROW.out)
   | good u k2 =>
    obtain ⟨hk2,a3,n3,c3,rfl,hv3⟩:=HPost.out;have HRG:Hid (r=.good (some ⟨1,ks,.zero⟩) k2):=(by show _=_;rw [<- HR.out,HLN.out,HRT.out];rfl);have HV3:=qqh hv3;have HK2:=qqh hk2;clear hv3 hk2 HPost;go_wp2_with fail
    go_ret2;rw [HRG.out];exact ⟨_,rfl,_,_,_,_,rfl,HV3.out,HP1.out.nil HK2.out,HF1.out.trans (Fr.nil HK2.out)⟩
 ·clear h912;have HHD:Hid (headP D k=tblP D k 1):=hhd;obtain ⟨rk,hrk⟩:∃ rk,tblP D k 1=rk:=⟨_,rfl⟩;have hkno:rk ≠ .opn:=fun e => HNO.out (by rw [<- HR.out];unfold lnP;rw [HHD.out,hrk,e])
  have HRK:=qqh hrk;have HKNO:=qqh hkno;clear hhd hrk hkno;go_enter Tryz.func58,Tryz.ntmps58;go_wp2_with fail
  refine (hd1_c D A _ C bp k n c _ left nd er ns nst (by exact HP.out) hB HV.out (by omega) (by rw [HRK.out];exact HKNO.out)).mono ?_;intro e w1 hpost;rw [HRK.out] at hpost;have HPost:=qqh hpost;clear hpost;cases rk with
  | opn => exact absurd rfl HKNO.out
  | bad =>
   have herr:ErrH D A C bp left er nst w e w1:=HPost.out;have HRB:Hid (r=.bad):=(by show _=_;rw [<- HR.out];unfold lnP;rw [HHD.out,HRK.out]);obtain ⟨v,nd5,N5,xs5,rfl,hE,hPI,hKB⟩:=herr;obtain ⟨bb,rfl⟩:=Err.ptr hE;have HE:=qqh hE;have HPI:=qqh hPI;have HKB:=qqh hKB;clear hE hPI hKB;go_wp2_with fail
   go_ret2;rw [HRB.out];exact ⟨_,_,_,_,rfl,HE.out,HPI.out,HKB.out⟩
  | good o p =>
   obtain ⟨ks,rfl,a1,n1,c1,nd1,rfl,hvw,hP1,hF1⟩:=HPost.out;have HLN:Hid (lnP D k=lnThen (some ⟨1,ks,.zero⟩) (tailP D p)):=(by show _=_;unfold lnP;rw [HHD.out,HRK.out]);have HP1:Hid (PN D A C bp w1 left nd1 (ns++exNds ns.length ⟨1,ks,.zero⟩) er nst):=hP1;have HF1:=qqh hF1;have HV1:=qqh hvw;clear hP1 hF1 hvw HPost;obtain ⟨rt,hrt⟩:∃ rt,tailP D p=rt:=⟨_,rfl⟩;have HRT:=qqh hrt;have hto:rt ≠ .opn:=(by rw [<- hrt];exact tailP_opn D p);clear hrt;go_wp2_with fail
   refine (tail_c D A a1 C bp p n1 c1 _ _ left nd1 er _ nst (by exact HP1.out) HV1.out).mono ?_;intro e w2 hpost;rw [HRT.out] at hpost;have HPost:=qqh hpost;clear hpost;cases rt with
   | opn => exact absurd rfl hto
   | bad =>
    obtain ⟨⟨v,rfl,hE⟩,hk2⟩:=HPost.out;have HRB:Hid (r=.bad):=(by show _=_;rw [<- HR.out,HLN.out,HRT.out];rfl);obtain ⟨bb,rfl⟩:=Err.ptr hE;have HE:=qqh hE;have HK2:=qqh hk2;clear hE hk2;go_wp2_with fail
    go_ret2;rw [HRB.out];exact PN.errL HP1.out HK2.out HE.out HP1.out.ltB (HF1.out.kb HROW.out)
   | good u k2 =>
    obtain ⟨hk2,a3,n3,c3,rfl,hv3⟩:=HPost.out;have HRG:Hid (r=.good (some ⟨1,ks,.zero⟩) k2):=(by show _=_;rw [<- HR.out,HLN.out,HRT.out];rfl);have HV3:=qqh hv3;have HK2:=qqh hk2;clear hv3 hk2 HPost;go_wp2_with fail
    go_ret2;rw [HRG.out];exact ⟨_,rfl,_,_,_,_,rfl,HV3.out,HP1.out.nil HK2.out,HF1.out.trans (Fr.nil HK2.out)⟩
theorem reset_c (D:Doc) (A:Option Addr) (C bp:Nat) (w:World) (hB:Blk w bp [.bool false,.slice none 0 0,.slice none 0 0,.slice none 0 0,.nilIface,.int .i64 0] 66) (hd:DocAt D A C w) (hA:∀ a,A=some a->a.block ≠ bp/\a.block<w.heap.size) :
  Calls Tryz.prog 27 #[.pointer (some ⟨bp,0,none⟩),.slice A D.n C] w fun e w' => e=.returned (.tuple #[])/\PN D A C bp w' (.slice A D.n C) (.slice none 0 0) [] .nilIface 0/\Kp (Only bp) w w':=by
 have b0:=hB.cell 0 rfl;have b1:=hB.cell 1 rfl;have b2:=hB.cell 2 rfl;have b3:=hB.cell 3 rfl;have b4:=hB.cell 4 rfl;have b5:=hB.cell 5 rfl;have f1:=hB.free 1;have f2:=hB.free 2;have f3:=hB.free 3;have f4:=hB.free 4;have f5:=hB.free 5;have HB:=qqh hB;have HD:=qqh hd;have HA:=qqh hA;clear hB hd hA;go_enter Tryz.func27,Tryz.ntmps27;go_wp2_with fail
 go_end0
 have hk:Kp (Only bp) w (((((w.setCell ⟨bp,1,none⟩ (.slice A D.n C)).setCell ⟨bp,2,none⟩ (.slice A D.n C)).setCell ⟨bp,3,none⟩ (.slice none 0 0)).setCell ⟨bp,4,none⟩ .nilIface).setCell ⟨bp,5,none⟩ (.int .i64 0)) :=
  Kp.putOnly (Kp.putOnly (Kp.putOnly (Kp.putOnly (Kp.putOnly (Kp.refl _ _) _) _) _) _) _
 refine ⟨rfl,⟨[],⟨?_,HD.out.kp hk (fun a ha e => (HA.out a ha).1 e),World.ownsRow_nil _ _ _ _,by simp,fun a ha => ⟨(HA.out a ha).1,fun e => (by cases e),by have:=(HA.out a ha).2;simp;omega⟩⟩,rfl⟩,hk⟩;exact ((((HB.out.put 1 _).put 2 _).put 3 _).put 4 _).put 5 _
end Go.Proofs.YtpgmddjgcgpoeaaGreat
