/-
  A part of the proof.
-/
import Derived.Test.YtpgmddjgcgpoeaaGreatD06
import Derived.Test.YtpgmddjgcgpoeaaGreatD04
import Derived.Test.YtpgmddjgcgpoeaaGreatD29
import Derived.Test.YtpgmddjgcgpoeaaGreatD18
import Derived.Deep.DeepCutAuto
set_option linter.unusedVariables false
set_option linter.unusedSimpArgs false
set_option maxRecDepth 100000
set_option maxHeartbeats 8000000
namespace Go.Proofs.YtpgmddjgcgpoeaaGreat
open Go.RowKit
theorem dt_ge (D:Doc):∀ (m i:Nat) (dl:Option Nat),D.n - i=m->i<=(dtRun D i dl).1:=by
 intro m
 induction m using Nat.strongRecOn with
 | _ m ih =>
  intro i dl hm;rw [dtRun];split
  ·exact qqr _
  split
  ·have:=ih (D.n - (i+1)) (by omega) (i+1) dl rfl;omega
  split
  ·have:=ih (D.n - (i+1)) (by omega) (i+1) (some (dl.getD i)) rfl;omega
  ·exact qqr _
def oI:Option Nat->Int | none => -1 | some d => (d:Int)
def oUp (k:Nat):Option Nat->Option Nat | none => none | some d => some (k+d)
theorem from_any (a:Option Addr) (n c j:Nat) (x:Int) (hx:x=(j:Int)) (hj:j<=n) (hc:n<=c) :
  ∃ a',(j<n->a'=a.map (·.add j))/\∀ w,(Instr.slice 22 (.slice a n c) (some (.int .i64 x)) none none).run Tryz.prog w=.ok (.slice a' (n - j) (c - j)) w:=by
 subst hx;refine ⟨if c=j then a else a.map (·.add j),fun h => by rw [if_neg (by omega)],fun w => ?_⟩;rw [run_slice_l (P:=Tryz.prog) w 22 a n c under22 .i64 (j:Int) (by omega) (by omega),size22];simp only [Result.andThen,sliced,Int.toNat_natCast,Nat.mul_one]
theorem scD_c (D:Doc) (A a:Option Addr) (C k n c:Nat) (w:World) (hd:DocAt D A C w) (hv:VW D A C k a n c) (hk:k<D.n) (hd0:48<=D.c k/\D.c k<=57) (hs:dtS D k) :
  Calls Tryz.prog 112 #[.slice a n c] w (Sc5 D A C k a c w (dtK D k (dtRun D k none)) (dtRun D k none).1):=by
 have hsm:=D.small;have hC1:=hd.1;have hC2:=hd.2.1;have hln:=qql hv.len;have hln':=qql hv.len.symm;have hcp:=qql hv.cap;have hcp':=qql hv.cap.symm;obtain ⟨bd,q,rfl,hb⟩:=hv.bytes hd hk;have h3:k+3<=(dtRun D k none).1:=by
  obtain ⟨dl,h1,_⟩:=dt_three D k hd0 hs;rw [h1];exact dt_ge D _ _ _ rfl
 obtain ⟨r,hr⟩:∃ r,dtRun D k none=r:=⟨_,rfl⟩;rw [hr] at h3 ⊢;have HB:=qqh hb;have HD:=qqh hd;have HV:=qqh hv;have HR0:Hid (dtRun D (k+0) (oUp k none)=r):=hr;have H3:=qqh h3;clear hb hd hv hr hs hd0 h3;go_enter Tryz.func112,Tryz.ntmps112;go_wp2_with fail
 go_loop [7,8] (fun x y => ∃ (j:Nat) (o:Option Nat),j<=n/\x=.int .i64 (j:Nat)/\y=.int .i64 (oI o)/\Hid (∀ d,o=some d->d<j)/\Hid (dtRun D (k+j) (oUp k o)=r)) (fun x _ => n - (intOf x).toNat)
 case atStart => exact ⟨0,none,by omega,rfl,rfl,(fun d h => by cases h),HR0⟩
 case round =>
  obtain ⟨j,o,hj,rfl,rfl,HO,HR⟩:=hrel;rcases qqg j n with hl | hl
  ·have bj:=HB.out j (by omega);go_upto_region 5 with fail;go_cut [45] (fun x wx => x=.bool (decide (dtC (D.c (k+j))))/\w=wx)
   case first =>
    by_cases hdg:dval (D.c (k+j))<10
    ·have hdg':=(dval_10i _).1 hdg;have HDG:=qqh (qqt hdg);go_wp2_with fail
     refine (dig111_c (D.c (k+j)) _).mono ?_;rintro e w1 ⟨rfl,hw⟩;obtain rfl:=hw.symm;rw [HDG.out];go_wp2_with fail
     go_meet;exact ⟨congrArg Value.bool (qqt (.inl hdg')).symm,rfl⟩
    have hdg':¬ (48<=D.c (k+j)/\D.c (k+j)<=57):=fun h => hdg ((dval_10i _).2 h)
    have HDG:=qqh (qqf hdg);by_cases h58:D.c (k+j)=58
    ·have e58:((D.c (k+j):Int) == 58)=true:=(by rw [beq_iff_eq];omega);have hCp:=qqh (show dtC (D.c (k+j)) by unfold dtC;omega);clear h58;go_wp2_with fail
     refine (dig111_c (D.c (k+j)) _).mono ?_;rintro e w1 ⟨rfl,hw⟩;obtain rfl:=hw.symm;rw [HDG.out];go_wp2_with fail
     go_meet;exact ⟨congrArg Value.bool (qqt hCp.out).symm,rfl⟩
    have e58:((D.c (k+j):Int) == 58)=false:=qqn (by omega);by_cases h45:D.c (k+j)=45
    ·have e45:((D.c (k+j):Int) == 45)=true:=(by rw [beq_iff_eq];omega);have hCp:=qqh (show dtC (D.c (k+j)) by unfold dtC;omega);clear h45;go_wp2_with fail
     refine (dig111_c (D.c (k+j)) _).mono ?_;rintro e w1 ⟨rfl,hw⟩;obtain rfl:=hw.symm;rw [HDG.out];go_wp2_with fail
     go_meet;exact ⟨congrArg Value.bool (qqt hCp.out).symm,rfl⟩
    have e45:((D.c (k+j):Int) == 45)=false:=qqn (by omega);by_cases h43:D.c (k+j)=43
    ·have e43:((D.c (k+j):Int) == 43)=true:=(by rw [beq_iff_eq];omega);have hCp:=qqh (show dtC (D.c (k+j)) by unfold dtC;omega);clear h43;go_wp2_with fail
     refine (dig111_c (D.c (k+j)) _).mono ?_;rintro e w1 ⟨rfl,hw⟩;obtain rfl:=hw.symm;rw [HDG.out];go_wp2_with fail
     go_meet;exact ⟨congrArg Value.bool (qqt hCp.out).symm,rfl⟩
    have e43:((D.c (k+j):Int) == 43)=false:=qqn (by omega);by_cases h46:D.c (k+j)=46
    ·have e46:((D.c (k+j):Int) == 46)=true:=(by rw [beq_iff_eq];omega);have hCp:=qqh (show dtC (D.c (k+j)) by unfold dtC;omega);clear h46;go_wp2_with fail
     refine (dig111_c (D.c (k+j)) _).mono ?_;rintro e w1 ⟨rfl,hw⟩;obtain rfl:=hw.symm;rw [HDG.out];go_wp2_with fail
     go_meet;exact ⟨congrArg Value.bool (qqt hCp.out).symm,rfl⟩
    have e46:((D.c (k+j):Int) == 46)=false:=qqn (by omega);by_cases h90:D.c (k+j)=90
    ·have e90:((D.c (k+j):Int) == 90)=true:=(by rw [beq_iff_eq];omega);have hCp:=qqh (show dtC (D.c (k+j)) by unfold dtC;omega);clear h90;go_wp2_with fail
     refine (dig111_c (D.c (k+j)) _).mono ?_;rintro e w1 ⟨rfl,hw⟩;obtain rfl:=hw.symm;rw [HDG.out];go_wp2_with fail
     go_meet;exact ⟨congrArg Value.bool (qqt hCp.out).symm,rfl⟩
    have e90:((D.c (k+j):Int) == 90)=false:=qqn (by omega);by_cases h122:D.c (k+j)=122
    ·have e122:((D.c (k+j):Int) == 122)=true:=(by rw [beq_iff_eq];omega);have hCp:=qqh (show dtC (D.c (k+j)) by unfold dtC;omega);clear h122;go_wp2_with fail
     refine (dig111_c (D.c (k+j)) _).mono ?_;rintro e w1 ⟨rfl,hw⟩;obtain rfl:=hw.symm;rw [HDG.out];go_wp2_with fail
     go_meet;exact ⟨congrArg Value.bool (qqt hCp.out).symm,rfl⟩
    have e122:((D.c (k+j):Int) == 122)=false:=qqn (by omega);go_wp2_with fail
    refine (dig111_c (D.c (k+j)) _).mono ?_;rintro e w1 ⟨rfl,hw⟩;obtain rfl:=hw.symm;rw [HDG.out];go_wp2_with fail
    go_meet;exact ⟨congrArg Value.bool (qqf (by unfold dtC;omega)).symm,rfl⟩
   case rest =>
    obtain ⟨h45,rfl⟩:=hcut;by_cases hC:dtC (D.c (k+j))
    ·rw [qqt hC] at h45;subst h45;have HN:Hid (dtRun D (k+(j+1)) (oUp k (o))=r):=(by show _=_;rw [<- HR.out,dt_c (by omega) hC];rfl);go_wp2_with fail
     go_round
     case rel => exact ⟨j+1,o,by omega,by go_num,rfl,(fun d h => by have:=HO.out d h;omega),HN⟩
     case measure => simp [intOf];omega
    ·rw [qqf hC] at h45;subst h45;have HNC:=qqh hC;clear hC;go_upto_region 7 with fail;go_cut [72] (fun x wx => x=.bool (decide (dtT D (k+j)))/\w=wx)
     case first =>
      by_cases h84:D.c (k+j)=84
      ·have e84:((D.c (k+j):Int) == 84)=true:=(by rw [beq_iff_eq];omega);have hCp:=qqh (show dtT D (k+j) from .inl h84);clear h84;go_wp2_with fail
       go_meet;exact ⟨congrArg Value.bool (qqt hCp.out).symm,rfl⟩
      have e84:((D.c (k+j):Int) == 84)=false:=qqn (by omega);by_cases h116:D.c (k+j)=116
      ·have e116:((D.c (k+j):Int) == 116)=true:=(by rw [beq_iff_eq];omega);have hCp:=qqh (show dtT D (k+j) from .inr (.inl h116));clear h116;go_wp2_with fail
       go_meet;exact ⟨congrArg Value.bool (qqt hCp.out).symm,rfl⟩
      have e116:((D.c (k+j):Int) == 116)=false:=qqn (by omega);by_cases h32:D.c (k+j)=32
      ·have e32:((D.c (k+j):Int) == 32)=true:=(by rw [beq_iff_eq];omega);have H32:=qqh h32;clear h32;rcases qqg (j+1) n with hl1 | hl1
       ·have b1:=HB.out (j+1) (by omega);by_cases hdg:dval (D.c (k+(j+1)))<10
        ·have hdg':=(dval_10i _).1 hdg;have HDG:=qqh (qqt hdg);go_wp2_with fail
         refine (dig111_c (D.c (k+(j+1))) _).mono ?_;rintro e w1 ⟨rfl,hw⟩;obtain rfl:=hw.symm;rw [HDG.out];go_wp2_with fail
         go_meet;exact ⟨congrArg Value.bool (qqt (.inr (.inr ⟨H32.out,hdg'⟩))).symm,rfl⟩
        ·have hdg':¬ (48<=D.c (k+j+1)/\D.c (k+j+1)<=57):=fun h => hdg ((dval_10i _).2 h)
         have HDG:=qqh (qqf hdg);go_wp2_with fail
         refine (dig111_c (D.c (k+(j+1))) _).mono ?_;rintro e w1 ⟨rfl,hw⟩;obtain rfl:=hw.symm;rw [HDG.out];go_wp2_with fail
         go_meet;exact ⟨congrArg Value.bool (qqf (by have h32:=H32.out;unfold dtT;omega)).symm,rfl⟩
       ·have h0:=D.out (k+j+1) (by omega);go_wp2_with fail
        go_meet;exact ⟨congrArg Value.bool (qqf (by have h32:=H32.out;unfold dtT;omega)).symm,rfl⟩
      have e32:((D.c (k+j):Int) == 32)=false:=qqn (by omega);go_wp2_with fail
      go_meet;exact ⟨congrArg Value.bool (qqf (by unfold dtT;omega)).symm,rfl⟩
     case rest =>
      obtain ⟨h72,rfl⟩:=hcut;by_cases hT:dtT D (k+j)
      ·rw [qqt hT] at h72;subst h72;cases o with
       | none =>
        unfold oI;have HN:Hid (dtRun D (k+(j+1)) (oUp k (some j))=r):=(by show _=_;rw [<- HR.out,dt_t (by omega) HNC.out hT];rfl);go_wp2_with fail
        go_round
        case rel => exact ⟨j+1,some j,by omega,by go_num,rfl,(fun d h => by injection h with h;omega),HN⟩
        case measure => simp [intOf];omega
       | some d =>
        have hdj:d<j:=HO.out d rfl;have ed:decide ((d:Int)<0)=false:=qqf (by omega);unfold oI;have HN:Hid (dtRun D (k+(j+1)) (oUp k (some d))=r):=(by show _=_;rw [<- HR.out,dt_t (by omega) HNC.out hT];rfl);go_wp2_with fail
        go_round
        case rel => exact ⟨j+1,some d,by omega,by go_num,rfl,(fun d' h => by injection h with h;omega),HN⟩
        case measure => simp [intOf];omega
      ·rw [qqf hT] at h72;subst h72;have HST:Hid ((k+j,oUp k o)=r):=(by show _=_;rw [<- HR.out,dt_stop HNC.out hT]);clear hT;have hj3:3<=j:=(by have h:=H3.out;rw [<- HST.out] at h;dsimp only at h;omega);have b2:=HB.out 2 (by omega);have hrunt:=upto_ (some ⟨bd,q,none⟩) n c j (j:Nat) rfl (by omega);obtain rfl:=HST.out;by_cases h58:D.c (k+2)=58
       ·have e58:((D.c (k+2):Int) == 58)=true:=(by rw [beq_iff_eq];omega);have hK:dtK D k (k+j,oUp k o)=13:=(by unfold dtK;rw [if_pos h58]);have HK:=qqh hK;clear h58 hK;obtain ⟨af,hvf,hrunf⟩:=VW.from_ HV.out hC1 j (j:Nat) rfl (by omega)
        skip
        have HVF:=qqh hvf;clear hvf;go_wp2_with fail
        go_quiet (fail)
        go_wp2_with fail
        refine bodyPost_ret (results_tmp5 rfl _ _ _) rfl ?_;refine ⟨(Kp.refl _ _).drewN _,_,_,_,?_,HVF.out⟩;rw [HK.out];rw [Nat.add_sub_cancel_left];rfl
       ·have e58:((D.c (k+2):Int) == 58)=false:=qqn (by omega);have H58:=qqh h58;clear h58;cases o with
        | none =>
         have hK:dtK D k (k+j,oUp k none)=12:=(by unfold dtK;rw [if_neg H58.out];rfl);have HK:=qqh hK;clear hK;unfold oI;obtain ⟨af,hvf,hrunf⟩:=VW.from_ HV.out hC1 j (j:Nat) rfl (by omega)
         skip
         have HVF:=qqh hvf;clear hvf;go_wp2_with fail
         go_quiet (fail)
         go_wp2_with fail
         refine bodyPost_ret (results_tmp5 rfl _ _ _) rfl ?_;refine ⟨(Kp.refl _ _).drewN _,_,_,_,?_,HVF.out⟩;rw [HK.out];rw [Nat.add_sub_cancel_left];rfl
        | some d =>
         have hdj:d<j:=HO.out d rfl;obtain ⟨az,haz,hrunz⟩:=from_any (some ⟨bd,q,none⟩) j c (d+1) ((d:Int)+1) (by omega) (by omega) (by omega);have HAZ:=qqh haz;clear haz;have ed:decide ((d:Int)<0)=false:=qqf (by omega);unfold oI;go_wp2_with fail
         refine (zone_c D az (k+d+1) (j - (d+1)) (c - (d+1)) _ (by omega) (fun hm => ⟨bd,q+(d+1),by rw [HAZ.out (by omega)];rfl,fun i hi => by have:=HB.out (d+1+i) (by omega);rw [show q+(d+1)+i=q+(d+1+i) by omega,show k+d+1+i=k+(d+1+i) by omega];exact this⟩)).mono ?_;rintro e w1 ⟨rfl,hw⟩;obtain rfl:=hw.symm;have hzz:dtK D k (k+j,oUp k (some d))=if zoneIn D (k+d+1) (j - (d+1))=true then 15 else 14:=by
          unfold dtK;rw [if_neg H58.out];dsimp only [oUp];rw [show k+j - (k+d+1)=j - (d+1) by omega]
         obtain ⟨z,hz⟩:∃ z,zoneIn D (k+d+1) (j - (d+1))=z:=⟨_,rfl⟩;rw [hz] at hzz ⊢;have HZZ:=qqh hzz;clear hz hzz;cases z with
         | true =>
          obtain ⟨af,hvf,hrunf⟩:=VW.from_ HV.out hC1 j (j:Nat) rfl (by omega)
          skip
          have HVF:=qqh hvf;clear hvf;go_wp2_with fail
          go_quiet (fail)
          go_wp2_with fail
          refine bodyPost_ret (results_tmp5 rfl _ _ _) rfl ?_;refine ⟨(Kp.refl _ _).drewN _,_,_,_,?_,HVF.out⟩;rw [HZZ.out];rw [Nat.add_sub_cancel_left];rfl
         | false =>
          obtain ⟨af,hvf,hrunf⟩:=VW.from_ HV.out hC1 j (j:Nat) rfl (by omega)
          skip
          have HVF:=qqh hvf;clear hvf;go_wp2_with fail
          go_quiet (fail)
          go_wp2_with fail
          refine bodyPost_ret (results_tmp5 rfl _ _ _) rfl ?_;refine ⟨(Kp.refl _ _).drewN _,_,_,_,?_,HVF.out⟩;rw [HZZ.out];rw [Nat.add_sub_cancel_left];rfl
  ·obtain rfl:j=n:=(by omega);have HST:Hid ((k+j,oUp k o)=r):=(by show _=_;rw [<- HR.out,dt_end (by omega)]);have hj3:3<=j:=(by have h:=H3.out;rw [<- HST.out] at h;dsimp only at h;omega);have b2:=HB.out 2 (by omega);have hrunt:=upto_ (some ⟨bd,q,none⟩) j c j (j:Nat) rfl (by omega);obtain rfl:=HST.out;by_cases h58:D.c (k+2)=58
   ·have e58:((D.c (k+2):Int) == 58)=true:=(by rw [beq_iff_eq];omega);have hK:dtK D k (k+j,oUp k o)=13:=(by unfold dtK;rw [if_pos h58]);have HK:=qqh hK;clear h58 hK;obtain ⟨af,hvf,hrunf⟩:=VW.from_ HV.out hC1 j (j:Nat) rfl (by omega);rw [show j - j=0 by omega] at hvf hrunf;have HVF:=qqh hvf;clear hvf;go_wp2_with fail
    go_quiet (fail)
    go_wp2_with fail
    refine bodyPost_ret (results_tmp5 rfl _ _ _) rfl ?_;refine ⟨(Kp.refl _ _).drewN _,_,_,_,?_,HVF.out⟩;rw [HK.out];rw [Nat.add_sub_cancel_left];rfl
   ·have e58:((D.c (k+2):Int) == 58)=false:=qqn (by omega);have H58:=qqh h58;clear h58;cases o with
    | none =>
     have hK:dtK D k (k+j,oUp k none)=12:=(by unfold dtK;rw [if_neg H58.out];rfl);have HK:=qqh hK;clear hK;unfold oI;obtain ⟨af,hvf,hrunf⟩:=VW.from_ HV.out hC1 j (j:Nat) rfl (by omega);rw [show j - j=0 by omega] at hvf hrunf;have HVF:=qqh hvf;clear hvf;go_wp2_with fail
     go_quiet (fail)
     go_wp2_with fail
     refine bodyPost_ret (results_tmp5 rfl _ _ _) rfl ?_;refine ⟨(Kp.refl _ _).drewN _,_,_,_,?_,HVF.out⟩;rw [HK.out];rw [Nat.add_sub_cancel_left];rfl
    | some d =>
     have hdj:d<j:=HO.out d rfl;obtain ⟨az,haz,hrunz⟩:=from_any (some ⟨bd,q,none⟩) j c (d+1) ((d:Int)+1) (by omega) (by omega) (by omega);have HAZ:=qqh haz;clear haz;have ed:decide ((d:Int)<0)=false:=qqf (by omega);unfold oI;go_wp2_with fail
     refine (zone_c D az (k+d+1) (j - (d+1)) (c - (d+1)) _ (by omega) (fun hm => ⟨bd,q+(d+1),by rw [HAZ.out (by omega)];rfl,fun i hi => by have:=HB.out (d+1+i) (by omega);rw [show q+(d+1)+i=q+(d+1+i) by omega,show k+d+1+i=k+(d+1+i) by omega];exact this⟩)).mono ?_;rintro e w1 ⟨rfl,hw⟩;obtain rfl:=hw.symm;have hzz:dtK D k (k+j,oUp k (some d))=if zoneIn D (k+d+1) (j - (d+1))=true then 15 else 14:=by
      unfold dtK;rw [if_neg H58.out];dsimp only [oUp];rw [show k+j - (k+d+1)=j - (d+1) by omega]
     obtain ⟨z,hz⟩:∃ z,zoneIn D (k+d+1) (j - (d+1))=z:=⟨_,rfl⟩;rw [hz] at hzz ⊢;have HZZ:=qqh hzz;clear hz hzz;cases z with
     | true =>
      obtain ⟨af,hvf,hrunf⟩:=VW.from_ HV.out hC1 j (j:Nat) rfl (by omega);rw [show j - j=0 by omega] at hvf hrunf;have HVF:=qqh hvf;clear hvf;go_wp2_with fail
      go_quiet (fail)
      go_wp2_with fail
      refine bodyPost_ret (results_tmp5 rfl _ _ _) rfl ?_;refine ⟨(Kp.refl _ _).drewN _,_,_,_,?_,HVF.out⟩;rw [HZZ.out];rw [Nat.add_sub_cancel_left];rfl
     | false =>
      obtain ⟨af,hvf,hrunf⟩:=VW.from_ HV.out hC1 j (j:Nat) rfl (by omega);rw [show j - j=0 by omega] at hvf hrunf;have HVF:=qqh hvf;clear hvf;go_wp2_with fail
      go_quiet (fail)
      go_wp2_with fail
      refine bodyPost_ret (results_tmp5 rfl _ _ _) rfl ?_;refine ⟨(Kp.refl _ _).drewN _,_,_,_,?_,HVF.out⟩;rw [HZZ.out];rw [Nat.add_sub_cancel_left];rfl
end Go.Proofs.YtpgmddjgcgpoeaaGreat
