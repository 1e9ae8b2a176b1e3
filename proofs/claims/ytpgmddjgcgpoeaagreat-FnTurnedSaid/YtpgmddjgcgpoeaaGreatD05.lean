/-
  A part of the proof.
-/
import Derived.Test.YtpgmddjgcgpoeaaGreatD04
set_option linter.unusedVariables false
set_option linter.unusedSimpArgs false
set_option maxRecDepth 100000
set_option maxHeartbeats 8000000
namespace Go.Proofs.YtpgmddjgcgpoeaaGreat
open Go.RowKit
def sdRun (D:Doc) (b:Nat) (k:Nat):R Unit :=
 if _hn:D.n<=k then .good () k
 else if dval (D.c k)<b then sdRun D b (k+1)
 else if D.c k=95 then (if dval (D.c (k+1))<b then sdRun D b (k+2) else .bad)
 else .good () k
termination_by D.n - k
theorem sd_end {D:Doc} {b k:Nat} (h:D.n<=k):sdRun D b k=.good () k:=by rw [sdRun,dif_pos h]
theorem sd_dig {D:Doc} {b k:Nat} (hn:k<D.n) (h:dval (D.c k)<b):sdRun D b k=sdRun D b (k+1):=by rw [sdRun,dif_neg (by omega),if_pos h]
theorem sd_und {D:Doc} {b k:Nat} (hn:k<D.n) (h:¬ dval (D.c k)<b) (h2:D.c k=95) (h3:dval (D.c (k+1))<b):sdRun D b k=sdRun D b (k+2):=by rw [sdRun,dif_neg (by omega),if_neg h,if_pos h2,if_pos h3]
theorem sd_bad {D:Doc} {b k:Nat} (hn:k<D.n) (h:¬ dval (D.c k)<b) (h2:D.c k=95) (h3:¬ dval (D.c (k+1))<b):sdRun D b k=.bad:=by rw [sdRun,dif_neg (by omega),if_neg h,if_pos h2,if_neg h3]
theorem sd_stop {D:Doc} {b k:Nat} (hn:k<D.n) (h:¬ dval (D.c k)<b) (h2:D.c k ≠ 95):sdRun D b k=.good () k:=by rw [sdRun,dif_neg (by omega),if_neg h,if_neg h2]
def SdPost (k:Nat) (w:World) (r:R Unit) (e:Ending) (w':World):Prop :=
 match r with
 | .good _ p => e=.returned (.tuple #[.int .i64 ((p - k:Nat):Int),.nilIface])/\w'=w
 | _ => (∃ v,e=.returned (.tuple #[.int .i64 0,v])/\Err w' w.heap.size v)/\Kp Nil w w'
theorem sd10_c (D:Doc) (A a:Option Addr) (C k n c i:Nat) (w:World) (hd:DocAt D A C w) (hv:VW D A C k a n c) (hi:i<=n) :
  Calls Tryz.prog 120 #[.slice a n c,.int .i64 i,.func (.func 111) #[] #[]] w (SdPost k w (sdRun D 10 (k+i))):=by
 have hs:=D.small;have hC1:=hd.1;have hC2:=hd.2.1;have hln:=qql hv.len;have hln':=qql hv.len.symm;have hcp:=qql hv.cap;have hcp':=qql hv.cap.symm;obtain ⟨r,hr⟩:∃ r,sdRun D 10 (k+i)=r:=⟨_,rfl⟩;rw [hr];have HD:=qqh hd;have HV:=qqh hv;have HR0:=qqh hr;clear hd hv hr;go_enter Tryz.func120,Tryz.ntmps120;go_wp2_with fail
 go_loop [1] (fun x => ∃ j:Nat,i<=j/\j<=n/\x=.int .i64 (j:Nat)/\Hid (sdRun D 10 (k+j)=r)) (fun x => n - (intOf x).toNat)
 case atStart => exact ⟨i,qqr _,hi,rfl,HR0⟩
 case round =>
  obtain ⟨j,hj1,hj2,rfl,HR⟩:=hrel;rcases qqg j n with hlt | hge
  ·obtain ⟨bd,q,rfl,hb⟩:=HV.out.bytes HD.out (by omega);have HB:=qqh hb;have b0:=hb j (by omega);clear hb;by_cases hdg:dval (D.c (k+j))<10
   ·have hN:sdRun D 10 (k+(j+1))=r:=(by rw [<- HR.out,sd_dig (k:=k+j) (by omega) hdg];rfl);have HN:=qqh hN;have HDG:=qqh (qqt hdg);clear hN hdg;go_wp2_with fail
    refine (dig111_c (D.c (k+j)) _).mono ?_;rintro e w1 ⟨rfl,rfl⟩;rw [HDG.out];go_wp2_with fail
    go_round
    case rel => exact ⟨j+1,by omega,by omega,by go_num,HN⟩
    case measure => simp [intOf];omega
   ·have HDG:=qqh (qqf hdg);by_cases h95:D.c (k+j)=95
    ·have e95:((D.c (k+j):Int) == 95)=true:=(by rw [beq_iff_eq];omega);rcases qqg (j+1) n with hl1 | hl1
     ·have b1:=HB.out (j+1) (by omega);by_cases hd1:dval (D.c (k+(j+1)))<10
      ·have hN:sdRun D 10 (k+(j+2))=r:=(by rw [<- HR.out,sd_und (k:=k+j) (by omega) hdg h95 hd1];rfl);have HN:=qqh hN;have HD1:=qqh (qqt hd1);clear hN hdg h95 hd1;go_wp2_with fail
       refine (dig111_c (D.c (k+j)) _).mono ?_;rintro e w1 ⟨rfl,rfl⟩;rw [HDG.out];go_wp2_with fail
       refine (dig111_c (D.c (k+(j+1))) _).mono ?_;rintro e w1 ⟨rfl,rfl⟩;rw [HD1.out];go_wp2_with fail
       go_round
       case rel => exact ⟨j+2,by omega,by omega,by go_num,HN⟩
       case measure => simp [intOf];omega
      ·obtain rfl:R.bad=r:=(by rw [<- HR.out,sd_bad (k:=k+j) (by omega) hdg h95 hd1]);have HD1:=qqh (qqf hd1);obtain ⟨asl,hvs,hrun⟩:=VW.sub HV.out hC1 j (j+2) j ((j:Int)+2) rfl (by omega) (by omega) (by omega);clear hdg h95 hd1 hvs;go_wp2_with fail
       refine (dig111_c (D.c (k+j)) _).mono ?_;rintro e w1 ⟨rfl,rfl⟩;rw [HDG.out];go_wp2_with fail
       refine (dig111_c (D.c (k+(j+1))) _).mono ?_;rintro e w1 ⟨rfl,rfl⟩;rw [HD1.out];go_wp2_with fail
       refine (newErr_c _ _ _ _ _ (by omega)).mono ?_;rintro e w2 ⟨⟨v,rfl,hE⟩,hk1⟩;go_wp2_with fail
       go_ret2;exact ⟨⟨_,rfl,hE⟩,hk1⟩
     ·obtain rfl:R.bad=r:=(by rw [<- HR.out,sd_bad (k:=k+j) (by omega) hdg h95 (by rw [Nat.add_assoc,D.out (k+(j+1)) (by omega),dval_0];omega)]);obtain ⟨asl,hvs,hrun⟩:=VW.sub HV.out hC1 j n j (n:Int) rfl rfl (by omega) (by omega);clear hdg h95 hvs;go_wp2_with fail
      refine (dig111_c (D.c (k+j)) _).mono ?_;rintro e w1 ⟨rfl,rfl⟩;rw [HDG.out];go_wp2_with fail
      refine (newErr_c _ _ _ _ _ (by omega)).mono ?_;rintro e w2 ⟨⟨v,rfl,hE⟩,hk1⟩;go_wp2_with fail
      go_ret2;exact ⟨⟨_,rfl,hE⟩,hk1⟩
    ·have e95:((D.c (k+j):Int) == 95)=false:=qqn (by omega);obtain rfl:R.good () (k+j)=r:=(by rw [<- HR.out,sd_stop (k:=k+j) (by omega) hdg h95]);clear hdg h95;go_wp2_with fail
     refine (dig111_c (D.c (k+j)) _).mono ?_;rintro e w1 ⟨rfl,rfl⟩;rw [HDG.out];go_wp2_with fail
     go_ret2;exact ⟨by rw [show k+j - k=j by omega];rfl,rfl⟩
  ·obtain rfl:j=n:=(by omega);obtain rfl:R.good () (k+j)=r:=(by rw [<- HR.out,sd_end (by omega)]);go_wp2_with fail
   go_ret2;exact ⟨by rw [show k+j - k=j by omega];rfl,rfl⟩
theorem sd16_c (D:Doc) (A a:Option Addr) (C k n c i:Nat) (w:World) (hd:DocAt D A C w) (hv:VW D A C k a n c) (hi:i<=n) :
  Calls Tryz.prog 120 #[.slice a n c,.int .i64 i,.func (.func 117) #[] #[]] w (SdPost k w (sdRun D 16 (k+i))):=by
 have hs:=D.small;have hC1:=hd.1;have hC2:=hd.2.1;have hln:=qql hv.len;have hln':=qql hv.len.symm;have hcp:=qql hv.cap;have hcp':=qql hv.cap.symm;obtain ⟨r,hr⟩:∃ r,sdRun D 16 (k+i)=r:=⟨_,rfl⟩;rw [hr];have HD:=qqh hd;have HV:=qqh hv;have HR0:=qqh hr;clear hd hv hr;go_enter Tryz.func120,Tryz.ntmps120;go_wp2_with fail
 go_loop [1] (fun x => ∃ j:Nat,i<=j/\j<=n/\x=.int .i64 (j:Nat)/\Hid (sdRun D 16 (k+j)=r)) (fun x => n - (intOf x).toNat)
 case atStart => exact ⟨i,qqr _,hi,rfl,HR0⟩
 case round =>
  obtain ⟨j,hj1,hj2,rfl,HR⟩:=hrel;rcases qqg j n with hlt | hge
  ·obtain ⟨bd,q,rfl,hb⟩:=HV.out.bytes HD.out (by omega);have HB:=qqh hb;have b0:=hb j (by omega);clear hb;by_cases hdg:dval (D.c (k+j))<16
   ·have hN:sdRun D 16 (k+(j+1))=r:=(by rw [<- HR.out,sd_dig (k:=k+j) (by omega) hdg];rfl);have HN:=qqh hN;have HDG:=qqh (qqt hdg);clear hN hdg;go_wp2_with fail
    refine (dig117_c (D.c (k+j)) _).mono ?_;rintro e w1 ⟨rfl,rfl⟩;rw [HDG.out];go_wp2_with fail
    go_round
    case rel => exact ⟨j+1,by omega,by omega,by go_num,HN⟩
    case measure => simp [intOf];omega
   ·have HDG:=qqh (qqf hdg);by_cases h95:D.c (k+j)=95
    ·have e95:((D.c (k+j):Int) == 95)=true:=(by rw [beq_iff_eq];omega);rcases qqg (j+1) n with hl1 | hl1
     ·have b1:=HB.out (j+1) (by omega);by_cases hd1:dval (D.c (k+(j+1)))<16
      ·have hN:sdRun D 16 (k+(j+2))=r:=(by rw [<- HR.out,sd_und (k:=k+j) (by omega) hdg h95 hd1];rfl);have HN:=qqh hN;have HD1:=qqh (qqt hd1);clear hN hdg h95 hd1;go_wp2_with fail
       refine (dig117_c (D.c (k+j)) _).mono ?_;rintro e w1 ⟨rfl,rfl⟩;rw [HDG.out];go_wp2_with fail
       refine (dig117_c (D.c (k+(j+1))) _).mono ?_;rintro e w1 ⟨rfl,rfl⟩;rw [HD1.out];go_wp2_with fail
       go_round
       case rel => exact ⟨j+2,by omega,by omega,by go_num,HN⟩
       case measure => simp [intOf];omega
      ·obtain rfl:R.bad=r:=(by rw [<- HR.out,sd_bad (k:=k+j) (by omega) hdg h95 hd1]);have HD1:=qqh (qqf hd1);obtain ⟨asl,hvs,hrun⟩:=VW.sub HV.out hC1 j (j+2) j ((j:Int)+2) rfl (by omega) (by omega) (by omega);clear hdg h95 hd1 hvs;go_wp2_with fail
       refine (dig117_c (D.c (k+j)) _).mono ?_;rintro e w1 ⟨rfl,rfl⟩;rw [HDG.out];go_wp2_with fail
       refine (dig117_c (D.c (k+(j+1))) _).mono ?_;rintro e w1 ⟨rfl,rfl⟩;rw [HD1.out];go_wp2_with fail
       refine (newErr_c _ _ _ _ _ (by omega)).mono ?_;rintro e w2 ⟨⟨v,rfl,hE⟩,hk1⟩;go_wp2_with fail
       go_ret2;exact ⟨⟨_,rfl,hE⟩,hk1⟩
     ·obtain rfl:R.bad=r:=(by rw [<- HR.out,sd_bad (k:=k+j) (by omega) hdg h95 (by rw [Nat.add_assoc,D.out (k+(j+1)) (by omega),dval_0];omega)]);obtain ⟨asl,hvs,hrun⟩:=VW.sub HV.out hC1 j n j (n:Int) rfl rfl (by omega) (by omega);clear hdg h95 hvs;go_wp2_with fail
      refine (dig117_c (D.c (k+j)) _).mono ?_;rintro e w1 ⟨rfl,rfl⟩;rw [HDG.out];go_wp2_with fail
      refine (newErr_c _ _ _ _ _ (by omega)).mono ?_;rintro e w2 ⟨⟨v,rfl,hE⟩,hk1⟩;go_wp2_with fail
      go_ret2;exact ⟨⟨_,rfl,hE⟩,hk1⟩
    ·have e95:((D.c (k+j):Int) == 95)=false:=qqn (by omega);obtain rfl:R.good () (k+j)=r:=(by rw [<- HR.out,sd_stop (k:=k+j) (by omega) hdg h95]);clear hdg h95;go_wp2_with fail
     refine (dig117_c (D.c (k+j)) _).mono ?_;rintro e w1 ⟨rfl,rfl⟩;rw [HDG.out];go_wp2_with fail
     go_ret2;exact ⟨by rw [show k+j - k=j by omega];rfl,rfl⟩
  ·obtain rfl:j=n:=(by omega);obtain rfl:R.good () (k+j)=r:=(by rw [<- HR.out,sd_end (by omega)]);go_wp2_with fail
   go_ret2;exact ⟨by rw [show k+j - k=j by omega];rfl,rfl⟩
theorem sd8_c (D:Doc) (A a:Option Addr) (C k n c i:Nat) (w:World) (hd:DocAt D A C w) (hv:VW D A C k a n c) (hi:i<=n) :
  Calls Tryz.prog 120 #[.slice a n c,.int .i64 i,.func (.func 118) #[] #[]] w (SdPost k w (sdRun D 8 (k+i))):=by
 have hs:=D.small;have hC1:=hd.1;have hC2:=hd.2.1;have hln:=qql hv.len;have hln':=qql hv.len.symm;have hcp:=qql hv.cap;have hcp':=qql hv.cap.symm;obtain ⟨r,hr⟩:∃ r,sdRun D 8 (k+i)=r:=⟨_,rfl⟩;rw [hr];have HD:=qqh hd;have HV:=qqh hv;have HR0:=qqh hr;clear hd hv hr;go_enter Tryz.func120,Tryz.ntmps120;go_wp2_with fail
 go_loop [1] (fun x => ∃ j:Nat,i<=j/\j<=n/\x=.int .i64 (j:Nat)/\Hid (sdRun D 8 (k+j)=r)) (fun x => n - (intOf x).toNat)
 case atStart => exact ⟨i,qqr _,hi,rfl,HR0⟩
 case round =>
  obtain ⟨j,hj1,hj2,rfl,HR⟩:=hrel;rcases qqg j n with hlt | hge
  ·obtain ⟨bd,q,rfl,hb⟩:=HV.out.bytes HD.out (by omega);have HB:=qqh hb;have b0:=hb j (by omega);clear hb;by_cases hdg:dval (D.c (k+j))<8
   ·have hN:sdRun D 8 (k+(j+1))=r:=(by rw [<- HR.out,sd_dig (k:=k+j) (by omega) hdg];rfl);have HN:=qqh hN;have HDG:=qqh (qqt hdg);clear hN hdg;go_wp2_with fail
    refine (dig118_c (D.c (k+j)) _).mono ?_;rintro e w1 ⟨rfl,rfl⟩;rw [HDG.out];go_wp2_with fail
    go_round
    case rel => exact ⟨j+1,by omega,by omega,by go_num,HN⟩
    case measure => simp [intOf];omega
   ·have HDG:=qqh (qqf hdg);by_cases h95:D.c (k+j)=95
    ·have e95:((D.c (k+j):Int) == 95)=true:=(by rw [beq_iff_eq];omega);rcases qqg (j+1) n with hl1 | hl1
     ·have b1:=HB.out (j+1) (by omega);by_cases hd1:dval (D.c (k+(j+1)))<8
      ·have hN:sdRun D 8 (k+(j+2))=r:=(by rw [<- HR.out,sd_und (k:=k+j) (by omega) hdg h95 hd1];rfl);have HN:=qqh hN;have HD1:=qqh (qqt hd1);clear hN hdg h95 hd1;go_wp2_with fail
       refine (dig118_c (D.c (k+j)) _).mono ?_;rintro e w1 ⟨rfl,rfl⟩;rw [HDG.out];go_wp2_with fail
       refine (dig118_c (D.c (k+(j+1))) _).mono ?_;rintro e w1 ⟨rfl,rfl⟩;rw [HD1.out];go_wp2_with fail
       go_round
       case rel => exact ⟨j+2,by omega,by omega,by go_num,HN⟩
       case measure => simp [intOf];omega
      ·obtain rfl:R.bad=r:=(by rw [<- HR.out,sd_bad (k:=k+j) (by omega) hdg h95 hd1]);have HD1:=qqh (qqf hd1);obtain ⟨asl,hvs,hrun⟩:=VW.sub HV.out hC1 j (j+2) j ((j:Int)+2) rfl (by omega) (by omega) (by omega);clear hdg h95 hd1 hvs;go_wp2_with fail
       refine (dig118_c (D.c (k+j)) _).mono ?_;rintro e w1 ⟨rfl,rfl⟩;rw [HDG.out];go_wp2_with fail
       refine (dig118_c (D.c (k+(j+1))) _).mono ?_;rintro e w1 ⟨rfl,rfl⟩;rw [HD1.out];go_wp2_with fail
       refine (newErr_c _ _ _ _ _ (by omega)).mono ?_;rintro e w2 ⟨⟨v,rfl,hE⟩,hk1⟩;go_wp2_with fail
       go_ret2;exact ⟨⟨_,rfl,hE⟩,hk1⟩
     ·obtain rfl:R.bad=r:=(by rw [<- HR.out,sd_bad (k:=k+j) (by omega) hdg h95 (by rw [Nat.add_assoc,D.out (k+(j+1)) (by omega),dval_0];omega)]);obtain ⟨asl,hvs,hrun⟩:=VW.sub HV.out hC1 j n j (n:Int) rfl rfl (by omega) (by omega);clear hdg h95 hvs;go_wp2_with fail
      refine (dig118_c (D.c (k+j)) _).mono ?_;rintro e w1 ⟨rfl,rfl⟩;rw [HDG.out];go_wp2_with fail
      refine (newErr_c _ _ _ _ _ (by omega)).mono ?_;rintro e w2 ⟨⟨v,rfl,hE⟩,hk1⟩;go_wp2_with fail
      go_ret2;exact ⟨⟨_,rfl,hE⟩,hk1⟩
    ·have e95:((D.c (k+j):Int) == 95)=false:=qqn (by omega);obtain rfl:R.good () (k+j)=r:=(by rw [<- HR.out,sd_stop (k:=k+j) (by omega) hdg h95]);clear hdg h95;go_wp2_with fail
     refine (dig118_c (D.c (k+j)) _).mono ?_;rintro e w1 ⟨rfl,rfl⟩;rw [HDG.out];go_wp2_with fail
     go_ret2;exact ⟨by rw [show k+j - k=j by omega];rfl,rfl⟩
  ·obtain rfl:j=n:=(by omega);obtain rfl:R.good () (k+j)=r:=(by rw [<- HR.out,sd_end (by omega)]);go_wp2_with fail
   go_ret2;exact ⟨by rw [show k+j - k=j by omega];rfl,rfl⟩
theorem sd2_c (D:Doc) (A a:Option Addr) (C k n c i:Nat) (w:World) (hd:DocAt D A C w) (hv:VW D A C k a n c) (hi:i<=n) :
  Calls Tryz.prog 120 #[.slice a n c,.int .i64 i,.func (.func 119) #[] #[]] w (SdPost k w (sdRun D 2 (k+i))):=by
 have hs:=D.small;have hC1:=hd.1;have hC2:=hd.2.1;have hln:=qql hv.len;have hln':=qql hv.len.symm;have hcp:=qql hv.cap;have hcp':=qql hv.cap.symm;obtain ⟨r,hr⟩:∃ r,sdRun D 2 (k+i)=r:=⟨_,rfl⟩;rw [hr];have HD:=qqh hd;have HV:=qqh hv;have HR0:=qqh hr;clear hd hv hr;go_enter Tryz.func120,Tryz.ntmps120;go_wp2_with fail
 go_loop [1] (fun x => ∃ j:Nat,i<=j/\j<=n/\x=.int .i64 (j:Nat)/\Hid (sdRun D 2 (k+j)=r)) (fun x => n - (intOf x).toNat)
 case atStart => exact ⟨i,qqr _,hi,rfl,HR0⟩
 case round =>
  obtain ⟨j,hj1,hj2,rfl,HR⟩:=hrel;rcases qqg j n with hlt | hge
  ·obtain ⟨bd,q,rfl,hb⟩:=HV.out.bytes HD.out (by omega);have HB:=qqh hb;have b0:=hb j (by omega);clear hb;by_cases hdg:dval (D.c (k+j))<2
   ·have hN:sdRun D 2 (k+(j+1))=r:=(by rw [<- HR.out,sd_dig (k:=k+j) (by omega) hdg];rfl);have HN:=qqh hN;have HDG:=qqh (qqt hdg);clear hN hdg;go_wp2_with fail
    refine (dig119_c (D.c (k+j)) _).mono ?_;rintro e w1 ⟨rfl,rfl⟩;rw [HDG.out];go_wp2_with fail
    go_round
    case rel => exact ⟨j+1,by omega,by omega,by go_num,HN⟩
    case measure => simp [intOf];omega
   ·have HDG:=qqh (qqf hdg);by_cases h95:D.c (k+j)=95
    ·have e95:((D.c (k+j):Int) == 95)=true:=(by rw [beq_iff_eq];omega);rcases qqg (j+1) n with hl1 | hl1
     ·have b1:=HB.out (j+1) (by omega);by_cases hd1:dval (D.c (k+(j+1)))<2
      ·have hN:sdRun D 2 (k+(j+2))=r:=(by rw [<- HR.out,sd_und (k:=k+j) (by omega) hdg h95 hd1];rfl);have HN:=qqh hN;have HD1:=qqh (qqt hd1);clear hN hdg h95 hd1;go_wp2_with fail
       refine (dig119_c (D.c (k+j)) _).mono ?_;rintro e w1 ⟨rfl,rfl⟩;rw [HDG.out];go_wp2_with fail
       refine (dig119_c (D.c (k+(j+1))) _).mono ?_;rintro e w1 ⟨rfl,rfl⟩;rw [HD1.out];go_wp2_with fail
       go_round
       case rel => exact ⟨j+2,by omega,by omega,by go_num,HN⟩
       case measure => simp [intOf];omega
      ·obtain rfl:R.bad=r:=(by rw [<- HR.out,sd_bad (k:=k+j) (by omega) hdg h95 hd1]);have HD1:=qqh (qqf hd1);obtain ⟨asl,hvs,hrun⟩:=VW.sub HV.out hC1 j (j+2) j ((j:Int)+2) rfl (by omega) (by omega) (by omega);clear hdg h95 hd1 hvs;go_wp2_with fail
       refine (dig119_c (D.c (k+j)) _).mono ?_;rintro e w1 ⟨rfl,rfl⟩;rw [HDG.out];go_wp2_with fail
       refine (dig119_c (D.c (k+(j+1))) _).mono ?_;rintro e w1 ⟨rfl,rfl⟩;rw [HD1.out];go_wp2_with fail
       refine (newErr_c _ _ _ _ _ (by omega)).mono ?_;rintro e w2 ⟨⟨v,rfl,hE⟩,hk1⟩;go_wp2_with fail
       go_ret2;exact ⟨⟨_,rfl,hE⟩,hk1⟩
     ·obtain rfl:R.bad=r:=(by rw [<- HR.out,sd_bad (k:=k+j) (by omega) hdg h95 (by rw [Nat.add_assoc,D.out (k+(j+1)) (by omega),dval_0];omega)]);obtain ⟨asl,hvs,hrun⟩:=VW.sub HV.out hC1 j n j (n:Int) rfl rfl (by omega) (by omega);clear hdg h95 hvs;go_wp2_with fail
      refine (dig119_c (D.c (k+j)) _).mono ?_;rintro e w1 ⟨rfl,rfl⟩;rw [HDG.out];go_wp2_with fail
      refine (newErr_c _ _ _ _ _ (by omega)).mono ?_;rintro e w2 ⟨⟨v,rfl,hE⟩,hk1⟩;go_wp2_with fail
      go_ret2;exact ⟨⟨_,rfl,hE⟩,hk1⟩
    ·have e95:((D.c (k+j):Int) == 95)=false:=qqn (by omega);obtain rfl:R.good () (k+j)=r:=(by rw [<- HR.out,sd_stop (k:=k+j) (by omega) hdg h95]);clear hdg h95;go_wp2_with fail
     refine (dig119_c (D.c (k+j)) _).mono ?_;rintro e w1 ⟨rfl,rfl⟩;rw [HDG.out];go_wp2_with fail
     go_ret2;exact ⟨by rw [show k+j - k=j by omega];rfl,rfl⟩
  ·obtain rfl:j=n:=(by omega);obtain rfl:R.good () (k+j)=r:=(by rw [<- HR.out,sd_end (by omega)]);go_wp2_with fail
   go_ret2;exact ⟨by rw [show k+j - k=j by omega];rfl,rfl⟩
end Go.Proofs.YtpgmddjgcgpoeaaGreat
