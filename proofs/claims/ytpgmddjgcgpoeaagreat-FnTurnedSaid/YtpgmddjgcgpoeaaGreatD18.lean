/-
  A part of the proof.
-/
import Derived.Test.YtpgmddjgcgpoeaaGreatD04
import Derived.Test.YtpgmddjgcgpoeaaGreatD10
import Derived.Deep.DeepCutAuto
import Derived.Deep.CutBlock
import Derived.Test.YtpgmddjgcgpoeaaGreatD02
import Derived.Test.YtpgmddjgcgpoeaaGreatD15
import Derived.Test.YtpgmddjgcgpoeaaGreatD01
set_option linter.unusedVariables false
set_option linter.unusedSimpArgs false
set_option maxRecDepth 100000
set_option maxHeartbeats 8000000
namespace Go.Proofs.YtpgmddjgcgpoeaaGreat
open Go.RowKit
theorem test3 (x a b:Nat) (hx:x<18446744073709551616) (ha:a<18446744073709551616) (hb:b<18446744073709551616) :
  (bits BinOp.or IntKind.u64 (bits BinOp.or IntKind.u64 (bits BinOp.and IntKind.u64 (x:Int) 9259542123273814144) (a:Int)) (b:Int) != 0)=!decide (x &&& 9259542123273814144=0/\a=0/\b=0):=by
 have h1:bits BinOp.and IntKind.u64 (x:Int) 9259542123273814144=((x &&& 9259542123273814144:Nat):Int):=bits_and_nat x 9259542123273814144 hx (by omega);have h2:x &&& 9259542123273814144<18446744073709551616:=Nat.lt_of_le_of_lt Nat.and_le_left hx;rw [h1];generalize x &&& 9259542123273814144=c at *;have h3:c ||| a<18446744073709551616:=Nat.or_lt_two_pow (n:=64) (by omega) (by omega);rw [bits_or_nat c a h2 ha,bits_or_nat _ b h3 hb];by_cases h:c=0/\a=0/\b=0
 ·obtain ⟨rfl,rfl,rfl⟩:=h;simp
 ·rw [qqf h,Bool.not_false,bne_iff_ne];intro h4;have h5:=or_zero (x:=c ||| a) (y:=b) (by omega);have h6:=or_zero h5.1;exact h ⟨h6.1,h6.2,h5.2⟩
theorem test4 (x a b d:Nat) (hx:x<18446744073709551616) (ha:a<18446744073709551616) (hb:b<18446744073709551616) (hd:d<18446744073709551616) :
  (bits BinOp.or IntKind.u64 (bits BinOp.or IntKind.u64 (bits BinOp.or IntKind.u64 (bits BinOp.and IntKind.u64 (x:Int) 9259542123273814144) (a:Int)) (b:Int)) (d:Int) != 0)=!decide (x &&& 9259542123273814144=0/\a=0/\b=0/\d=0):=by
 have h1:bits BinOp.and IntKind.u64 (x:Int) 9259542123273814144=((x &&& 9259542123273814144:Nat):Int):=bits_and_nat x 9259542123273814144 hx (by omega);have h2:x &&& 9259542123273814144<18446744073709551616:=Nat.lt_of_le_of_lt Nat.and_le_left hx;rw [h1];generalize x &&& 9259542123273814144=c at *;have h3:c ||| a<18446744073709551616:=Nat.or_lt_two_pow (n:=64) (by omega) (by omega);have h7:c ||| a ||| b<18446744073709551616:=Nat.or_lt_two_pow (n:=64) (by omega) (by omega);rw [bits_or_nat c a h2 ha,bits_or_nat _ b h3 hb,bits_or_nat _ d h7 hd];by_cases h:c=0/\a=0/\b=0/\d=0
 ·obtain ⟨rfl,rfl,rfl,rfl⟩:=h;simp
 ·rw [qqf h,Bool.not_false,bne_iff_ne];intro h4;have h8:=or_zero (x:=c ||| a ||| b) (y:=d) (by omega);have h5:=or_zero h8.1;have h6:=or_zero h5.1;exact h ⟨h6.1,h6.2,h5.2,h8.2⟩
theorem test5 (x a b d f:Nat) (hx:x<18446744073709551616) (ha:a<18446744073709551616) (hb:b<18446744073709551616) (hd:d<18446744073709551616) (hf:f<18446744073709551616) :
  (bits BinOp.or IntKind.u64 (bits BinOp.or IntKind.u64 (bits BinOp.or IntKind.u64 (bits BinOp.or IntKind.u64 (bits BinOp.and IntKind.u64 (x:Int) 9259542123273814144) (a:Int)) (b:Int)) (d:Int)) (f:Int) != 0)=!decide (x &&& 9259542123273814144=0/\a=0/\b=0/\d=0/\f=0):=by
 have h1:bits BinOp.and IntKind.u64 (x:Int) 9259542123273814144=((x &&& 9259542123273814144:Nat):Int):=bits_and_nat x 9259542123273814144 hx (by omega);have h2:x &&& 9259542123273814144<18446744073709551616:=Nat.lt_of_le_of_lt Nat.and_le_left hx;rw [h1];generalize x &&& 9259542123273814144=c at *;have h3:c ||| a<18446744073709551616:=Nat.or_lt_two_pow (n:=64) (by omega) (by omega);have h7:c ||| a ||| b<18446744073709551616:=Nat.or_lt_two_pow (n:=64) (by omega) (by omega);have h9:c ||| a ||| b ||| d<18446744073709551616:=Nat.or_lt_two_pow (n:=64) (by omega) (by omega);rw [bits_or_nat c a h2 ha,bits_or_nat _ b h3 hb,bits_or_nat _ d h7 hd,bits_or_nat _ f h9 hf];by_cases h:c=0/\a=0/\b=0/\d=0/\f=0
 ·obtain ⟨rfl,rfl,rfl,rfl,rfl⟩:=h;simp
 ·rw [qqf h,Bool.not_false,bne_iff_ne];intro h4;have h10:=or_zero (x:=c ||| a ||| b ||| d) (y:=f) (by omega);have h8:=or_zero h10.1;have h5:=or_zero h8.1;have h6:=or_zero h5.1;exact h ⟨h6.1,h6.2,h5.2,h8.2,h10.2⟩
theorem sg_plain {D:Doc} {j:Nat} (h:32<=D.c j/\D.c j<127):sg D j=1:=by unfold sg sgN;rw [if_pos (.inr h)]
theorem sg_tab {D:Doc} {j:Nat} (h:D.c j=9):sg D j=1:=by unfold sg sgN;rw [if_pos (.inl h)]
theorem sg_low {D:Doc} {j:Nat} (h:D.c j<128) (h2:¬ (D.c j=9\/32<=D.c j/\D.c j<127)):sg D j=0:=by unfold sg sgN;rw [if_neg h2,if_pos (by omega)]
theorem cmtRun_go {D:Doc} {j:Nat} (h:j<D.n) (h1:nlen D j=0) (h2:sg D j ≠ 0):cmtRun D j=cmtRun D (j+sg D j):=by
 generalize hx:cmtRun D (j+sg D j)=x;rw [cmtRun,if_neg (by omega),if_neg (by omega),if_neg h2,hx]
theorem cmtRun_bad {D:Doc} {j:Nat} (h:j<D.n) (h1:nlen D j=0) (h2:sg D j=0):cmtRun D j=.bad:=by rw [cmtRun,if_neg (by omega),if_neg (by omega),if_pos h2]
theorem cmtRun_nl {D:Doc} {j:Nat} (h1:nlen D j ≠ 0):cmtRun D j=.good () j:=by rw [cmtRun,if_pos h1];split <;> rfl
theorem cmtRun_end {D:Doc} {j:Nat} (h:D.n<=j):cmtRun D j=.good () j:=by rw [cmtRun,if_pos h]
theorem nlen_0 {D:Doc} {j:Nat} (h:D.c j ≠ 10) (h2:¬ (D.c j=13/\D.c (j+1)=10)):nlen D j=0:=by unfold nlen;rw [if_neg h,if_neg h2]
theorem cmtRun_one {D:Doc} {j:Nat} (h:j<D.n) (h1:sg D j=1) (h2:D.c j ≠ 10/\D.c j ≠ 13):cmtRun D j=cmtRun D (j+1):=by
 have:=cmtRun_go h (nlen_0 h2.1 (fun x => h2.2 x.1)) (by omega);rw [h1] at this;exact this
theorem cmtRun_plain {D:Doc} {j:Nat}:∀ m,j+m<=D.n->(∀ i,i<m->32<=D.c (j+i)/\D.c (j+i)<127)->cmtRun D j=cmtRun D (j+m):=by
 intro m
 induction m with
 | zero => intro _ _;rfl
 | succ m ih =>
  intro hm h;rw [ih (by omega) (fun i hi => h i (by omega))];have:=h m (by omega);exact cmtRun_one (by omega) (sg_plain this) (by omega)
theorem utf_ge (D:Doc):∀ (m j:Nat),D.n - j=m->j<=(utf D j).1/\(j<=D.n->(utf D j).1<=D.n):=by
 intro m
 induction m using Nat.strongRecOn with
 | _ m ih =>
  intro j hm;rcases qqg j D.n with h | h
  ·rcases qqg (D.c j) 128 with h1 | h1
   ·rw [utf_low h1];exact ⟨qqr _,fun h => h⟩
   ·by_cases h2:sg D j=0
    ·rw [utf_bad h h1 h2];exact ⟨qqr _,fun h => h⟩
    ·rw [utf_go h h1 h2];have h3:=sg_in D j h2;have:=ih (D.n - (j+sg D j)) (by omega) _ rfl;omega
  ·rw [utf_end h];exact ⟨qqr _,fun h => h⟩
theorem utf_gt {D:Doc} {j:Nat} (h:j<D.n) (h1:128<=D.c j) (h2:(utf D j).2=true):j<(utf D j).1:=by
 by_cases h3:sg D j=0
 ·rw [utf_bad h h1 h3] at h2;cases h2
 ·rw [utf_go h h1 h3];have:=utf_ge D _ (j+sg D j) rfl;omega
theorem cmtRun_utf (D:Doc):∀ (m j:Nat),D.n - j=m->cmtRun D j=if (utf D j).2=true then cmtRun D (utf D j).1 else .bad:=by
 intro m
 induction m using Nat.strongRecOn with
 | _ m ih =>
  intro j hm;rcases qqg j D.n with h | h
  ·rcases qqg (D.c j) 128 with h1 | h1
   ·rw [utf_low h1];rfl
   ·have h4:nlen D j=0:=nlen_0 (by omega) (by omega);by_cases h2:sg D j=0
    ·rw [utf_bad h h1 h2,cmtRun_bad h h4 h2];rfl
    ·rw [utf_go h h1 h2,cmtRun_go h h4 h2];exact ih (D.n - (j+sg D j)) (by omega) _ rfl
  ·rw [utf_end h];rfl
theorem drewN_drewN (w:World) (a b:Nat):(w.drewN a).drewN b=w.drewN (a+b):=by simp
theorem utf_false {D:Doc}:∀ {j:Nat},(utf D j).2=false->(utf D j).1<D.n:=by
 intro j
 induction hm:D.n - j using Nat.strongRecOn generalizing j with
 | _ m ih =>
  intro h2;rcases qqg j D.n with h | h
  ·rcases qqg (D.c j) 128 with h1 | h1
   ·rw [utf_low h1] at h2;cases h2
   ·by_cases h3:sg D j=0
    ·rw [utf_bad h h1 h3];exact h
    ·rw [utf_go h h1 h3] at h2 ⊢;exact ih (D.n - (j+sg D j)) (by omega) rfl h2
  ·rw [utf_end h] at h2;cases h2
def CmtPost (D:Doc) (A:Option Addr) (C:Nat) (w:World) (r:R Unit) (e:Ending) (w':World):Prop :=
 match r with
 | .good _ p => (∃ m,w'=w.drewN m)/\∃ x a n c,e=.returned (.tuple #[x,.slice a n c,.nilIface])/\IsSl x/\VW D A C p a n c
 | _ => Err3 w e w'
theorem scanCmt_c (D:Doc) (A a:Option Addr) (C k n c:Nat) (w:World) (hd:DocAt D A C w) (hv:VW D A C k a n c) (hk:k<D.n) (hc35:D.c k=35) :
  Calls Tryz.prog 54 #[.slice a n c] w (CmtPost D A C w (cmtRun D k)):=by
 have hs:=D.small;have hC1:=hd.1;have hC2:=hd.2.1;have hln:=qql hv.len;have hln':=qql hv.len.symm;have hcp:=qql hv.cap;have hcp':=qql hv.cap.symm;obtain ⟨bd,q,rfl,hb⟩:=hv.bytes hd hk;have hr1:cmtRun D k=cmtRun D (k+1):=cmtRun_one hk (sg_plain (by omega)) (by omega);obtain ⟨r,hr⟩:∃ r,cmtRun D k=r:=⟨_,rfl⟩;have HR1:Hid (cmtRun D (k+1)=r):=hr1.symm.trans hr;rw [hr];have HB:=qqh hb;have HD:=qqh hd;have HV:=qqh hv;clear hb hd hv hr hr1 hc35;go_enter Tryz.func54,Tryz.ntmps54;go_wp2_with fail
 go_loopw [5] (fun x wr => ∃ (j m:Nat),1<=j/\j<=n/\x=.int .i64 j/\Hid (cmtRun D (k+j)=r)/\wr=w.drewN m) (fun x _ => n - (intOf x).toNat)
 case atStart => exact ⟨1,0,by omega,by omega,rfl,HR1,rfl⟩
 case round =>
  obtain ⟨j,m,hj1,hj,rfl,HR,rfl⟩:=hrel;rcases qqg j n with hlt | hge
  ·go_upto_block 2 with fail
   go_cut [5] (fun x wx => ∃ (j' m':Nat),j<=j'/\j'<=n/\x=.int .i64 j'/\Hid (cmtRun D (k+j')=r)/\wx=w.drewN m')
   case first =>
    go_wp2_with fail
    go_loopw [5] (fun x wr => ∃ (j' m':Nat),j<=j'/\j'<=n/\x=.int .i64 j'/\Hid (cmtRun D (k+j')=r)/\wr=w.drewN m') (fun x _ => n - (intOf x).toNat)
    case atStart => exact ⟨j,m,by omega,by omega,rfl,HR,rfl⟩
    case round =>
     obtain ⟨i,m1,hi1,hi2,rfl,HRi,rfl⟩:=hrel;rcases qqg n (i+8) with h8 | h8
     ·go_wp2_with fail
      go_meet;exact ⟨i,m1,by omega,by omega,rfl,HRi,rfl⟩
     ·obtain ⟨a',hva,hrun⟩:=VW.from_ HV.out hC1 i i rfl (by omega);have HVA:=qqh hva;clear hva;have hl8:=le8_lt D (k+i);obtain ⟨X,hX⟩:∃ X,le8 D (k+i)=X:=⟨_,rfl⟩;rw [hX] at hl8;have HX:=qqh hX;have ht:=test3 X (hbb X 32) (hbe X 127) hl8 (hbb_lt _ _) (hbe_lt _ _);clear hX;by_cases hp:X &&& 9259542123273814144=0/\hbb X 32=0/\hbe X 127=0
      ·rw [qqt hp,Bool.not_true] at ht;have HP:=qqh hp;clear hp;go_wp2_with fail
       refine (le8_c D A a' C (k+i) (n - i) (c - i) _ (by exact HD.out) HVA.out (by omega)).mono ?_;rintro e w1 ⟨rfl,m2,rfl⟩;rw [HX.out];go_wp2_with (first
        | (go_at_call 77;refine (hbb_c X 32 hl8 (by omega) _).mono ?_;rintro e w1 ⟨rfl,rfl⟩)
        | (go_at_call 78;refine (hbe_c X 127 hl8 (by omega) _).mono ?_;rintro e w1 ⟨rfl,rfl⟩))
       go_roundw
       case rel => exact ⟨i+8,_,by omega,by omega,by go_num,by
        show _=_
        rw [<- HRi.out]
        refine (cmtRun_plain (j:=k+i) 8 (by omega) ?_).symm
        have hh:=HP.out
        rw [<- HX.out] at hh
        exact plain8 D (k+i) hh.1 hh.2.1 hh.2.2,rfl⟩
       case measure => simp [intOf];omega
      ·rw [qqf hp,Bool.not_false] at ht;clear hp;go_wp2_with fail
       refine (le8_c D A a' C (k+i) (n - i) (c - i) _ (by exact HD.out) HVA.out (by omega)).mono ?_;rintro e w1 ⟨rfl,m2,rfl⟩;rw [HX.out];go_wp2_with (first
        | (go_at_call 77;refine (hbb_c X 32 hl8 (by omega) _).mono ?_;rintro e w1 ⟨rfl,rfl⟩)
        | (go_at_call 78;refine (hbe_c X 127 hl8 (by omega) _).mono ?_;rintro e w1 ⟨rfl,rfl⟩))
       go_meet;exact ⟨i,_,by omega,by omega,rfl,HRi,rfl⟩
   case rest =>
    obtain ⟨i,m1,hi1,hi2,rfl,HRi,rfl⟩:=hcut;rcases qqg i n with hlt2 | hge2
    ·have b0:=HB.out i (by omega);obtain ⟨asl,hvs,hrun⟩:=VW.sub HV.out hC1 i (i+1) i ((i:Int)+1) rfl (by omega) (by omega) (by omega);obtain ⟨af,hvf,hrunf⟩:=VW.from_ HV.out hC1 i i rfl (by omega);have hrunt:=upto_ (some ⟨bd,q,none⟩) n c i i rfl (by omega);have HVF:=qqh hvf;clear hvs hvf;have hcl:=D.lt (k+i);rcases qqg (D.c (k+i)) 128 with hc | hc
     ·have e1:decide (128<=(D.c (k+i):Int))=false:=qqf (by omega);by_cases hpl:32<=D.c (k+i)/\D.c (k+i)<127
      ·have hn:=cmtRun_one (j:=k+i) (by omega) (sg_plain hpl) (by omega);have HN:=qqh hn;have e2:decide (32<=(D.c (k+i):Int))=true:=qqt (by omega);have e3:decide ((D.c (k+i):Int)<127)=true:=qqt (by omega);clear hn hpl hc hrun;go_wp2_with fail
       go_roundw
       case rel => exact ⟨i+1,m1,by omega,by omega,by go_num,by show _=_;rw [<- HRi.out];exact HN.out.symm,rfl⟩
       case measure => simp [intOf];omega
      ·have e23:decide (32<=(D.c (k+i):Int))=false\/(decide (32<=(D.c (k+i):Int))=true/\decide ((D.c (k+i):Int)<127)=false):=by
        rcases qqg (D.c (k+i)) 32 with h | h
        ·exact .inl (qqf (by omega))
        ·exact .inr ⟨qqt (by omega),qqf (by omega)⟩
       by_cases h10:D.c (k+i)=10
       ·have e2:decide (32<=(D.c (k+i):Int))=false:=qqf (by omega);have e4:((D.c (k+i):Int) == 10)=true:=(by rw [beq_iff_eq];omega);obtain rfl:R.good () (k+i)=r:=(by rw [<- HRi.out];exact (cmtRun_nl (by unfold nlen;rw [if_pos h10];omega)).symm);clear h10 e23 hpl hc hrun;go_wp2_with fail
        go_quiet (fail)
        go_wp2_with fail
        go_ret3
        exact ⟨⟨_,drewN_drewN _ _ _⟩,_,_,_,_,rfl,⟨_,_,_,rfl⟩,by have:=HVF.out;simpa only [Nat.sub_self] using this⟩
       ·have e4:((D.c (k+i):Int) == 10)=false:=qqn (by omega);by_cases h13:D.c (k+i)=13
        ·have e2:decide (32<=(D.c (k+i):Int))=false:=qqf (by omega);have e5:((D.c (k+i):Int) == 13)=true:=(by rw [beq_iff_eq];omega);by_cases hnx:D.c (k+(i+1))=10
         ·have hin:=Doc.in_of (D:=D) (k:=k+(i+1)) (by omega);have b1:=HB.out (i+1) (by omega);have e6:((D.c (k+(i+1)):Int) == 10)=true:=(by rw [beq_iff_eq];omega);obtain rfl:R.good () (k+i)=r:=(by rw [<- HRi.out];exact (cmtRun_nl (by unfold nlen;rw [if_neg h10,if_pos ⟨h13,hnx⟩];omega)).symm);clear h10 e23 hpl hc hrun h13 hnx;go_wp2_with fail
          go_quiet (fail)
          go_wp2_with fail
          go_ret3
          exact ⟨⟨_,drewN_drewN _ _ _⟩,_,_,_,_,rfl,⟨_,_,_,rfl⟩,by have:=HVF.out;simpa only [Nat.sub_self] using this⟩
         ·obtain rfl:R.bad=r:=(by rw [<- HRi.out];exact (cmtRun_bad (by omega) (nlen_0 h10 (fun h => hnx h.2)) (sg_low hc (by omega))).symm);rcases qqg (i+1) n with hl3 | hl3
          ·have b1:=HB.out (i+1) (by omega);have e6:((D.c (k+(i+1)):Int) == 10)=false:=qqn (by omega);clear h10 e23 hpl hc h13 hnx hrunf hrunt;go_wp2_with fail
           refine (newErr_c _ _ _ _ _ (by omega)).mono ?_;rintro e w1 ⟨⟨v,rfl,hE⟩,hk1⟩;go_wp2_with fail
           go_ret3
           exact ⟨⟨_,rfl,Err.mono hE (by simp)⟩,Kp.trans ((Kp.refl _ _).drewN _) hk1⟩
          ·clear h10 e23 hpl hc h13 hnx hrunf hrunt;go_wp2_with fail
           refine (newErr_c _ _ _ _ _ (by omega)).mono ?_;rintro e w1 ⟨⟨v,rfl,hE⟩,hk1⟩;go_wp2_with fail
           go_ret3
           exact ⟨⟨_,rfl,Err.mono hE (by simp)⟩,Kp.trans ((Kp.refl _ _).drewN _) hk1⟩
        ·have e5:((D.c (k+i):Int) == 13)=false:=qqn (by omega);by_cases h9:D.c (k+i)=9
         ·have e2:decide (32<=(D.c (k+i):Int))=false:=qqf (by omega);have e7:((D.c (k+i):Int) == 9)=true:=(by rw [beq_iff_eq];omega);have HN:=qqh (cmtRun_one (j:=k+i) (by omega) (sg_tab h9) (by omega));clear h10 e23 hpl hc h13 h9 hrunf hrunt hrun;go_wp2_with fail
          go_roundw
          case rel => exact ⟨i+1,m1,by omega,by omega,by go_num,by show _=_;rw [<- HRi.out];exact HN.out.symm,rfl⟩
          case measure => simp [intOf];omega
         ·have e7:((D.c (k+i):Int) == 9)=false:=qqn (by omega);obtain rfl:R.bad=r:=(by rw [<- HRi.out];exact (cmtRun_bad (by omega) (nlen_0 h10 (fun h => h13 h.1)) (sg_low hc (by omega))).symm);clear h10 hpl hc h13 h9 hrunf hrunt;rcases e23 with e2 | ⟨e2,e3⟩
          ·go_wp2_with fail
           refine (newErr_c _ _ _ _ _ (by omega)).mono ?_;rintro e w1 ⟨⟨v,rfl,hE⟩,hk1⟩;go_wp2_with fail
           go_ret3
           exact ⟨⟨_,rfl,Err.mono hE (by simp)⟩,Kp.trans ((Kp.refl _ _).drewN _) hk1⟩
          ·go_wp2_with fail
           refine (newErr_c _ _ _ _ _ (by omega)).mono ?_;rintro e w1 ⟨⟨v,rfl,hE⟩,hk1⟩;go_wp2_with fail
           go_ret3
           exact ⟨⟨_,rfl,Err.mono hE (by simp)⟩,Kp.trans ((Kp.refl _ _).drewN _) hk1⟩
     ·have e1:decide (128<=(D.c (k+i):Int))=true:=qqt (by omega);have hu:=cmtRun_utf D _ (k+i) rfl;have hug:=utf_ge D _ (k+i) rfl;cases hu2:(utf D (k+i)).2 with
      | true =>
       have hgt:=utf_gt (j:=k+i) (by omega) hc hu2;rw [hu2,if_pos rfl] at hu;have HU:=qqh hu;have HU2:=qqh hu2;have hle:=hug.2 (by omega);obtain ⟨p,hp⟩:∃ p,(utf D (k+i)).1=p:=⟨_,rfl⟩;rw [hp] at hgt hle;have HP:=qqh hp;clear hu hu2 hp hug hrun hc;go_wp2_with fail
       refine (utf_c D A _ C k n c i _ (by exact HD.out) HV.out (by omega)).mono ?_;rintro e w1 ⟨rfl,rfl⟩;rw [HU2.out,HP.out];go_wp2_with fail
       go_roundw
       case rel => exact ⟨p - k,m1,by omega,by omega,rfl,by show _=_;rw [<- HRi.out,HU.out,HP.out];congr 1;omega,rfl⟩
       case measure => simp [intOf];omega
      | false =>
       rw [hu2,if_neg (by simp)] at hu;obtain rfl:R.bad=r:=hu.symm.trans HRi.out;have hlt9:=utf_false (j:=k+i) hu2;have HU2:=qqh hu2;have hge9:=hug.1;obtain ⟨p,hp⟩:∃ p,(utf D (k+i)).1=p:=⟨_,rfl⟩;rw [hp] at hlt9 hge9;have HP:=qqh hp;obtain ⟨asl2,hvs2,hrun2⟩:=VW.sub HV.out hC1 (p - k) (p - k+1) ((p - k:Nat):Int) (((p - k:Nat):Int)+1) rfl (by omega) (by omega) (by omega);obtain ⟨i2,hi2'⟩:∃ i2,p - k=i2:=⟨_,rfl⟩;rw [hi2'] at hrun2;have hi3:k+i2<D.n:=(by omega);have HI2:=qqh hi2';clear hu hu2 hp hug hrun hc hvs2 hrunf hrunt hi2';go_wp2_with fail
       refine (utf_c D A _ C k n c i _ (by exact HD.out) HV.out (by omega)).mono ?_;rintro e w1 ⟨rfl,rfl⟩;rw [HU2.out,HP.out,HI2.out];go_wp2_with fail
       refine (newErr_c _ _ _ _ _ (by omega)).mono ?_;rintro e w1 ⟨⟨v,rfl,hE⟩,hk1⟩;go_wp2_with fail
       go_ret3
       exact ⟨⟨_,rfl,Err.mono hE (by simp)⟩,Kp.trans ((Kp.refl _ _).drewN _) hk1⟩
    ·obtain rfl:i=n:=(by omega);obtain ⟨af,hvf,hrunf⟩:=VW.from_ HV.out hC1 i i rfl (by omega);have hrunt:=upto_ (some ⟨bd,q,none⟩) i c i i rfl (by omega);have HVF:=qqh hvf;obtain rfl:R.good () (k+i)=r:=(by rw [<- HRi.out];exact (cmtRun_end (by omega)).symm);clear hvf;go_wp2_with fail
     go_quiet (fail)
     go_wp2_with fail
     go_ret3
     exact ⟨⟨_,drewN_drewN _ _ _⟩,_,_,_,_,rfl,⟨_,_,_,rfl⟩,by have:=HVF.out;simpa only [Nat.sub_self] using this⟩
  ·obtain rfl:j=n:=(by omega);obtain ⟨af,hvf,hrunf⟩:=VW.from_ HV.out hC1 j j rfl (by omega);have hrunt:=upto_ (some ⟨bd,q,none⟩) j c j j rfl (by omega);have HVF:=qqh hvf;obtain rfl:R.good () (k+j)=r:=(by rw [<- HR.out];exact (cmtRun_end (by omega)).symm);clear hvf;go_wp2_with fail
   go_quiet (fail)
   go_wp2_with fail
   go_ret3
   exact ⟨⟨_,drewN_drewN _ _ _⟩,_,_,_,_,rfl,⟨_,_,_,rfl⟩,by have:=HVF.out;simpa only [Nat.sub_self] using this⟩
theorem results_tmp4 {fn:Func} {t u v x:Tmp} (h:fn.results=#[.tmp t,.tmp u,.tmp v,.tmp x]) (tmps:Array Value) (P:Program) (w:World) :
  (results fn tmps).run P w=.ok (.tuple #[tmps.getD t undef,tmps.getD u undef,tmps.getD v undef,tmps.getD x undef]) w:=by
 simp [results,h]
theorem results_tmp5 {fn:Func} {t u v x y:Tmp} (h:fn.results=#[.tmp t,.tmp u,.tmp v,.tmp x,.tmp y]) (tmps:Array Value) (P:Program) (w:World) :
  (results fn tmps).run P w=.ok (.tuple #[tmps.getD t undef,tmps.getD u undef,tmps.getD v undef,tmps.getD x undef,tmps.getD y undef]) w:=by
 simp [results,h]
theorem hbb_32 (x:Nat) (hx:x<18446744073709551616) (w:World):Calls Tryz.prog 77 #[.int .u64 x,.int .u64 32] w fun e w' => e=.returned (.int .u64 (hbb x 32:Nat))/\w'=w:=hbb_c x 32 hx (by omega) w
theorem hbe_39 (x:Nat) (hx:x<18446744073709551616) (w:World):Calls Tryz.prog 78 #[.int .u64 x,.int .u64 39] w fun e w' => e=.returned (.int .u64 (hbe x 39:Nat))/\w'=w:=hbe_c x 39 hx (by omega) w
theorem hbe_34 (x:Nat) (hx:x<18446744073709551616) (w:World):Calls Tryz.prog 78 #[.int .u64 x,.int .u64 34] w fun e w' => e=.returned (.int .u64 (hbe x 34:Nat))/\w'=w:=hbe_c x 34 hx (by omega) w
theorem hbe_92 (x:Nat) (hx:x<18446744073709551616) (w:World):Calls Tryz.prog 78 #[.int .u64 x,.int .u64 92] w fun e w' => e=.returned (.int .u64 (hbe x 92:Nat))/\w'=w:=hbe_c x 92 hx (by omega) w
theorem hbe_127 (x:Nat) (hx:x<18446744073709551616) (w:World):Calls Tryz.prog 78 #[.int .u64 x,.int .u64 127] w fun e w' => e=.returned (.int .u64 (hbe x 127:Nat))/\w'=w:=hbe_c x 127 hx (by omega) w
def Rd (w:World) (A:Option Addr) (base:Nat) (v:Value) (l:List UInt8):Prop :=
 ∃ a c,v=.slice a l.length c/\(l ≠ []->∃ b o,a=some ⟨b,o,none⟩/\b<w.heap.size/\((∃ x,A=some x/\x.block=b)\/base<=b)/\∀ i (h:i<l.length),w.cell? ⟨b,o+i,none⟩=some (.int .u8 (l[i].toNat:Nat)))
theorem Rd.kp {w w':World} {A:Option Addr} {base:Nat} {v:Value} {l:List UInt8} {S:Nat->Prop} (h:Rd w A base v l) (k:Kp S w w') (hA:∀ a,A=some a->¬ S a.block) (hb:∀ b,base<=b->b<w.heap.size->¬ S b):Rd w' A base v l:=by
 obtain ⟨a,c,e,hl⟩:=h;refine ⟨a,c,e,fun hne => ?_⟩;obtain ⟨b,o,e2,h1,h2,h3⟩:=hl hne;refine ⟨b,o,e2,Nat.lt_of_lt_of_le h1 k.size,h2,fun i hi => ?_⟩;refine (World.cell?_of_block (a:=⟨b,o+i,none⟩) (k.block b h1 ?_)).trans (h3 i hi);rcases h2 with ⟨x,hx,rfl⟩ | h2
 ·exact hA x hx
 ·exact hb b h2 h1
theorem Rd.mono {w:World} {A:Option Addr} {base base':Nat} {v:Value} {l:List UInt8} (h:Rd w A base v l) (hb:base'<=base):Rd w A base' v l:=by
 obtain ⟨a,c,e,hl⟩:=h;refine ⟨a,c,e,fun hne => ?_⟩;obtain ⟨b,o,e2,h1,h2,h3⟩:=hl hne;exact ⟨b,o,e2,h1,h2.imp id (fun h => by omega),h3⟩
theorem Rd.doc {D:Doc} {w:World} {A a:Option Addr} {C k n c:Nat} (hv:VW D A C k a n c) (hd:DocAt D A C w) (m c' base:Nat) (hm:m<=n):Rd w A base (.slice a m c') (D.sub k m):=by
 refine ⟨a,c',by rw [Doc.sub_length],fun hne => ?_⟩;have hm0:m ≠ 0:=fun e => hne (by rw [e,Doc.sub_zero])
 have hlen:=hv.len;obtain ⟨bd,o,hA,ha⟩:=hv.at_ (by omega);obtain ⟨_,_,h0 | ⟨bd',o',hA',hlt,hc⟩⟩:=hd
 ·omega
 ·rw [hA] at hA';injection hA' with hA';injection hA' with e1 e2;subst e1 e2;refine ⟨bd,o+k,ha,hlt,.inl ⟨_,hA,rfl⟩,fun i hi => ?_⟩;have hi':i<m:=by rw [Doc.sub_length] at hi;exact hi
  rw [Nat.add_assoc,hc (k+i) (by omega),Doc.sub_get,Doc.toNat_ofNat]
def Err4 (w:World) (e:Ending) (w':World):Prop:=(∃ v,e=.returned (.tuple #[.slice none 0 0,.slice none 0 0,.slice none 0 0,v])/\Err w' w.heap.size v)/\Kp Nil w w'
def StrPost (D:Doc) (A:Option Addr) (C k c:Nat) (w:World) (r:R (List UInt8)) (e:Ending) (w':World):Prop :=
 match r with
 | .good l p => Kp Nil w w'/\∃ a0 v a n' c',e=.returned (.tuple #[.slice a0 (p - k) c,v,.slice a n' c',.nilIface])/\Rd w' A w.heap.size v l/\VW D A C p a n' c'
 | _ => Err4 w e w'
theorem txt_one {D:Doc} {q p:Nat} {acc:List UInt8} (h:p<D.n) (h1:sg D p=1) (hq:D.c p ≠ q) (hb:¬ (D.c p=92/\q=34)):txtRun D q p acc=txtRun D q (p+1) (acc++D.sub p 1):=by
 have:=txt_go (acc:=acc) h hq hb (by omega);rw [h1] at this;exact this
theorem txt_plain {D:Doc} {q p:Nat} {acc:List UInt8}:∀ m,p+m<=D.n->(∀ i,i<m->(32<=D.c (p+i)/\D.c (p+i)<127)/\D.c (p+i) ≠ q/\(q=34->D.c (p+i) ≠ 92))->txtRun D q p acc=txtRun D q (p+m) (acc++D.sub p m):=by
 intro m
 induction m with
 | zero => intro _ _;rw [Doc.sub_zero,List.append_nil];rfl
 | succ m ih =>
  intro hm h;rw [ih (by omega) (fun i hi => h i (by omega))];have h1:=h m (by omega);rw [txt_one (by omega) (sg_plain h1.1) h1.2.1 (fun h2 => h1.2.2 h2.2 h2.1),List.append_assoc,<- Doc.sub_add]
  rfl
theorem txt_utf (D:Doc) (q:Nat) (hq:q<128):∀ (m p:Nat) (acc:List UInt8),D.n - p=m->txtRun D q p acc=if (utf D p).2=true then txtRun D q (utf D p).1 (acc++D.sub p ((utf D p).1 - p)) else .bad:=by
 intro m
 induction m using Nat.strongRecOn with
 | _ m ih =>
  intro p acc hm;rcases qqg p D.n with h | h
  ·rcases qqg (D.c p) 128 with h1 | h1
   ·rw [utf_low h1];simp only [if_true,Nat.sub_self,Doc.sub_zero,List.append_nil]
   ·by_cases h2:sg D p=0
    ·rw [utf_bad h h1 h2,txt_bad h (by omega) (by omega) h2];rfl
    ·rw [utf_go h h1 h2,txt_go h (by omega) (by omega) h2,ih (D.n - (p+sg D p)) (by omega) _ _ rfl];have h3:=utf_ge D _ (p+sg D p) rfl;split
     ·rw [List.append_assoc,show (utf D (p+sg D p)).1 - p=sg D p+((utf D (p+sg D p)).1 - (p+sg D p)) by omega,Doc.sub_add]
     ·rfl
  ·rw [utf_end h];simp only [if_true,Nat.sub_self,Doc.sub_zero,List.append_nil]
theorem rfl_str {a0 a1 a2:Option Addr} {m m' c n1 c1 n2 c2:Nat} (h:m=m'):Ending.returned (.tuple #[.slice a0 m c,.slice a1 n1 c1,.slice a2 n2 c2,.nilIface])=.returned (.tuple #[.slice a0 m' c,.slice a1 n1 c1,.slice a2 n2 c2,.nilIface]):=by rw [h]
theorem literal_c (D:Doc) (A a:Option Addr) (C k n c:Nat) (pv:Value) (w:World) (hd:DocAt D A C w) (hv:VW D A C k a n c) (hk:k<D.n) :
  Calls Tryz.prog 97 #[pv,.slice a n c] w (StrPost D A C k c w (txt D 39 k)):=by
 have hs:=D.small;have hC1:=hd.1;have hC2:=hd.2.1;have hln:=qql hv.len;have hln':=qql hv.len.symm;have hcp:=qql hv.cap;have hcp':=qql hv.cap.symm;obtain ⟨bd,q,rfl,hb⟩:=hv.bytes hd hk;obtain ⟨r,hr⟩:∃ r,txt D 39 k=r:=⟨_,rfl⟩;have HR1:Hid (txtRun D 39 (k+1) (D.sub (k+1) (1 - 1))=r):=by show _=_;rw [<- hr];rfl
 rw [hr];have HB:=qqh hb;have HD:=qqh hd;have HV:=qqh hv;clear hb hd hv hr;go_enter Tryz.func97,Tryz.ntmps97;go_wp2_with fail
 go_loopw [8] (fun x wr => ∃ (j m:Nat),1<=j/\j<=n/\x=.int .i64 j/\Hid (txtRun D 39 (k+j) (D.sub (k+1) (j - 1))=r)/\wr=w.drewN m) (fun x _ => n - (intOf x).toNat)
 case atStart => exact ⟨1,0,by omega,by omega,rfl,HR1,rfl⟩
 case round =>
  obtain ⟨j,m,hj1,hj,rfl,HR,rfl⟩:=hrel
  go_upto_block 2 with fail
  go_cut [8] (fun x wx => ∃ (j' m':Nat),j<=j'/\j'<=n/\x=.int .i64 j'/\Hid (txtRun D 39 (k+j') (D.sub (k+1) (j' - 1))=r)/\wx=w.drewN m')
  case first =>
   go_wp2_with fail
   go_loopw [8] (fun x wr => ∃ (j' m':Nat),j<=j'/\j'<=n/\x=.int .i64 j'/\Hid (txtRun D 39 (k+j') (D.sub (k+1) (j' - 1))=r)/\wr=w.drewN m') (fun x _ => n - (intOf x).toNat)
   case atStart => exact ⟨j,m,by omega,by omega,rfl,HR,rfl⟩
   case round =>
    obtain ⟨i,m1,hi1,hi2,rfl,HRi,rfl⟩:=hrel;rcases qqg n (i+8) with h8 | h8
    ·go_wp2_with fail
     go_meet;exact ⟨i,m1,by omega,by omega,rfl,HRi,rfl⟩
    ·obtain ⟨a',hva,hrun⟩:=VW.from_ HV.out hC1 i i rfl (by omega);have HVA:=qqh hva;clear hva;have hl8:=le8_lt D (k+i);obtain ⟨X,hX⟩:∃ X,le8 D (k+i)=X:=⟨_,rfl⟩;rw [hX] at hl8;have HX:=qqh hX;have ht:=test4 X (hbb X 32) (hbe X 39) (hbe X 127) hl8 (hbb_lt _ _) (hbe_lt _ _) (hbe_lt _ _);clear hX;by_cases hp:X &&& 9259542123273814144=0/\hbb X 32=0/\hbe X 39=0/\hbe X 127=0
     ·rw [qqt hp,Bool.not_true] at ht;have HP:=qqh hp;clear hp;go_wp2_with fail
      refine (le8_c D A a' C (k+i) (n - i) (c - i) _ (by exact HD.out) HVA.out (by omega)).mono ?_;rintro e w1 ⟨rfl,m2,rfl⟩;rw [HX.out];go_wp2_with (first
       | ((with_reducible refine (hbb_32 X hl8 _).mono ?_);rintro e w1 ⟨rfl,rfl⟩)
       | ((with_reducible refine (hbe_39 X hl8 _).mono ?_);rintro e w1 ⟨rfl,rfl⟩)
       | ((with_reducible refine (hbe_127 X hl8 _).mono ?_);rintro e w1 ⟨rfl,rfl⟩))
      go_roundw
      case rel => exact ⟨i+8,_,by omega,by omega,by go_num,by
       show _=_
       rw [<- HRi.out]
       refine Eq.symm ((txt_plain (p:=k+i) 8 (by omega) ?_).trans ?_)
       ·have hh:=HP.out
        rw [<- HX.out] at hh
        intro t ht
        exact ⟨plain8 D (k+i) hh.1 hh.2.1 hh.2.2.2 t ht,other8 D (k+i) 39 (by omega) hh.1 hh.2.2.1 t ht,fun h => by omega⟩
       ·rw [show k+i=k+1+(i - 1) by omega,<- Doc.sub_add,show k+1+(i - 1)+8=k+(i+8) by omega,show i - 1+8=i+8 - 1 by omega],rfl⟩
      case measure => simp [intOf];omega
     ·rw [qqf hp,Bool.not_false] at ht;clear hp;go_wp2_with fail
      refine (le8_c D A a' C (k+i) (n - i) (c - i) _ (by exact HD.out) HVA.out (by omega)).mono ?_;rintro e w1 ⟨rfl,m2,rfl⟩;rw [HX.out];go_wp2_with (first
       | ((with_reducible refine (hbb_32 X hl8 _).mono ?_);rintro e w1 ⟨rfl,rfl⟩)
       | ((with_reducible refine (hbe_39 X hl8 _).mono ?_);rintro e w1 ⟨rfl,rfl⟩)
       | ((with_reducible refine (hbe_127 X hl8 _).mono ?_);rintro e w1 ⟨rfl,rfl⟩))
      go_meet;exact ⟨i,_,by omega,by omega,rfl,HRi,rfl⟩
  case rest =>
   obtain ⟨i,m1,hi1,hi2,rfl,HRi,rfl⟩:=hcut;rcases qqg i n with hlt2 | hge2
   ·have b0:=HB.out i (by omega);obtain ⟨asl,hvs,hrun⟩:=VW.sub HV.out hC1 i (i+1) i ((i:Int)+1) rfl (by omega) (by omega) (by omega);have hcl:=D.lt (k+i);rcases qqg (D.c (k+i)) 128 with hc | hc
    ·have hstep:∀ (h1:sg D (k+i)=1) (h2:D.c (k+i) ≠ 39),Hid (txtRun D 39 (k+(i+1)) (D.sub (k+1) (i+1 - 1))=r):=by
      intro h1 h2;show _=_;rw [<- HRi.out,txt_one (p:=k+i) (by omega) h1 h2 (by omega),show k+i=k+1+(i - 1) by omega,<- Doc.sub_add,show k+1+(i - 1)+1=k+(i+1) by omega,show i - 1+1=i+1 - 1 by omega]
     by_cases h39:D.c (k+i)=39
     ·have e1:((D.c (k+i):Int) == 39)=true:=(by rw [beq_iff_eq];omega);obtain rfl:R.good (D.sub (k+1) (i - 1)) (k+i+1)=r:=(by rw [<- HRi.out];exact (txt_end (by omega) h39).symm);obtain ⟨af,hvf,hrunf⟩:=VW.from_ HV.out hC1 (i+1) ((i:Int)+1) (by omega) (by omega);have hrunt:=upto_ (some ⟨bd,q,none⟩) n c (i+1) ((i:Int)+1) (by omega) (by omega);obtain ⟨av,hvv,hrunv⟩:=VW.sub HV.out hC1 1 i 1 i rfl rfl (by omega) (by omega);have HVF:=qqh hvf;have HVV:=qqh hvv;clear hvf hvv hvs hrun hstep h39 hc;go_wp2_with fail
      go_quiet (fail)
      go_wp2_with fail
      refine bodyPost_ret (results_tmp4 rfl _ _ _) rfl ?_;refine ⟨((Kp.refl _ _).drewN _).drewN _,_,_,_,_,_,rfl_str (by omega),Rd.doc HVV.out (HD.out.kp (S:=Nil) (((Kp.refl _ _).drewN m1).drewN _) (fun _ _ h => h)) (i - 1) _ _ (by omega),HVF.out⟩
     ·have e1:((D.c (k+i):Int) == 39)=false:=qqn (by omega);by_cases hpl:32<=D.c (k+i)/\D.c (k+i)<127
      ·have e2:decide (32<=(D.c (k+i):Int))=true:=qqt (by omega);have e3:decide ((D.c (k+i):Int)<127)=true:=qqt (by omega);have HN:=hstep (sg_plain hpl) h39;clear hpl hc hrun hstep h39 hvs;go_wp2_with fail
       go_roundw
       case rel => exact ⟨i+1,m1,by omega,by omega,by go_num,HN,rfl⟩
       case measure => simp [intOf];omega
      ·by_cases h9:D.c (k+i)=9
       ·have e2:decide (32<=(D.c (k+i):Int))=false:=qqf (by omega);have e4:((D.c (k+i):Int) == 9)=true:=(by rw [beq_iff_eq];omega);have HN:=hstep (sg_tab h9) h39;clear hpl hc hrun hstep h39 hvs h9;go_wp2_with fail
        go_roundw
        case rel => exact ⟨i+1,m1,by omega,by omega,by go_num,HN,rfl⟩
        case measure => simp [intOf];omega
       ·have e4:((D.c (k+i):Int) == 9)=false:=qqn (by omega);obtain rfl:R.bad=r:=(by rw [<- HRi.out];exact (txt_bad (by omega) h39 (by omega) (sg_low hc (by omega))).symm);clear hstep hvs;by_cases h10:D.c (k+i)=10
        ·have e2:decide (32<=(D.c (k+i):Int))=false:=qqf (by omega);have e5:((D.c (k+i):Int) == 10)=true:=(by rw [beq_iff_eq];omega);clear h39 hpl h9 h10 hc;go_wp2_with fail
         refine (newErr_c _ _ _ _ _ (by omega)).mono ?_;rintro e w1 ⟨⟨v,rfl,hE⟩,hk1⟩;go_wp2_with fail
         refine bodyPost_ret (results_tmp4 rfl _ _ _) rfl ?_;exact ⟨⟨_,rfl,Err.mono hE (by simp)⟩,Kp.trans ((Kp.refl _ _).drewN _) hk1⟩
        ·have e5:((D.c (k+i):Int) == 10)=false:=qqn (by omega);by_cases h13:D.c (k+i)=13
         ·have e2:decide (32<=(D.c (k+i):Int))=false:=qqf (by omega);have e6:((D.c (k+i):Int) == 13)=true:=(by rw [beq_iff_eq];omega);clear h39 hpl h9 h10 h13 hc;go_wp2_with fail
          refine (newErr_c _ _ _ _ _ (by omega)).mono ?_;rintro e w1 ⟨⟨v,rfl,hE⟩,hk1⟩;go_wp2_with fail
          refine bodyPost_ret (results_tmp4 rfl _ _ _) rfl ?_;exact ⟨⟨_,rfl,Err.mono hE (by simp)⟩,Kp.trans ((Kp.refl _ _).drewN _) hk1⟩
         ·have e6:((D.c (k+i):Int) == 13)=false:=qqn (by omega);have e7:decide ((D.c (k+i):Int)<128)=true:=qqt (by omega);rcases qqg (D.c (k+i)) 32 with h | h
          ·have e2:decide (32<=(D.c (k+i):Int))=false:=qqf (by omega);clear h39 hpl h9 h10 h13 hc;go_wp2_with fail
           refine (newErr_c _ _ _ _ _ (by omega)).mono ?_;rintro e w1 ⟨⟨v,rfl,hE⟩,hk1⟩;go_wp2_with fail
           refine bodyPost_ret (results_tmp4 rfl _ _ _) rfl ?_;exact ⟨⟨_,rfl,Err.mono hE (by simp)⟩,Kp.trans ((Kp.refl _ _).drewN _) hk1⟩
          ·have e2:decide (32<=(D.c (k+i):Int))=true:=qqt (by omega);have e3:decide ((D.c (k+i):Int)<127)=false:=qqf (by omega);clear h39 hpl h9 h10 h13 hc;go_wp2_with fail
           refine (newErr_c _ _ _ _ _ (by omega)).mono ?_;rintro e w1 ⟨⟨v,rfl,hE⟩,hk1⟩;go_wp2_with fail
           refine bodyPost_ret (results_tmp4 rfl _ _ _) rfl ?_;exact ⟨⟨_,rfl,Err.mono hE (by simp)⟩,Kp.trans ((Kp.refl _ _).drewN _) hk1⟩
    ·have e1:((D.c (k+i):Int) == 39)=false:=qqn (by omega);have e2:decide (32<=(D.c (k+i):Int))=true:=qqt (by omega);have e3:decide ((D.c (k+i):Int)<127)=false:=qqf (by omega);have e4:((D.c (k+i):Int) == 9)=false:=qqn (by omega);have e5:((D.c (k+i):Int) == 10)=false:=qqn (by omega);have e6:((D.c (k+i):Int) == 13)=false:=qqn (by omega);have e7:decide ((D.c (k+i):Int)<128)=false:=qqf (by omega);have hu:=txt_utf D 39 (by omega) _ (k+i) (D.sub (k+1) (i - 1)) rfl;have hug:=utf_ge D _ (k+i) rfl;cases hu2:(utf D (k+i)).2 with
     | true =>
      have hgt:=utf_gt (j:=k+i) (by omega) hc hu2;rw [hu2,if_pos rfl] at hu;have HU:=qqh hu;have HU2:=qqh hu2;have hle:=hug.2 (by omega);obtain ⟨p,hp⟩:∃ p,(utf D (k+i)).1=p:=⟨_,rfl⟩;rw [hp] at hgt hle;have HP:=qqh hp;clear hu hu2 hp hug hrun hc hvs;go_wp2_with fail
      refine (utf_c D A _ C k n c i _ (by exact HD.out) HV.out (by omega)).mono ?_;rintro e w1 ⟨rfl,rfl⟩;rw [HU2.out,HP.out];go_wp2_with fail
      go_roundw
      case rel => exact ⟨p - k,m1,by omega,by omega,rfl,by
       show _=_
       rw [<- HRi.out,HU.out,HP.out,show k+(p - k)=p by omega]
       congr 1
       rw [show p - k - 1=(i - 1)+(p - (k+i)) by omega,Doc.sub_add,show k+1+(i - 1)=k+i by omega],rfl⟩
      case measure => simp [intOf];omega
     | false =>
      rw [hu2,if_neg (by simp)] at hu;obtain rfl:R.bad=r:=hu.symm.trans HRi.out;have hlt9:=utf_false (j:=k+i) hu2;have HU2:=qqh hu2;have hge9:=hug.1;obtain ⟨p,hp⟩:∃ p,(utf D (k+i)).1=p:=⟨_,rfl⟩;rw [hp] at hlt9 hge9;have HP:=qqh hp;obtain ⟨asl2,hvs2,hrun2⟩:=VW.sub HV.out hC1 (p - k) (p - k+1) ((p - k:Nat):Int) (((p - k:Nat):Int)+1) rfl (by omega) (by omega) (by omega);obtain ⟨i2,hi2'⟩:∃ i2,p - k=i2:=⟨_,rfl⟩;rw [hi2'] at hrun2;have hi3:k+i2<D.n:=(by omega);have HI2:=qqh hi2';clear hu hu2 hp hug hrun hc hvs2 hi2' hvs;go_wp2_with fail
      refine (utf_c D A _ C k n c i _ (by exact HD.out) HV.out (by omega)).mono ?_;rintro e w1 ⟨rfl,rfl⟩;rw [HU2.out,HP.out,HI2.out];go_wp2_with fail
      refine (newErr_c _ _ _ _ _ (by omega)).mono ?_;rintro e w1 ⟨⟨v,rfl,hE⟩,hk1⟩;go_wp2_with fail
      refine bodyPost_ret (results_tmp4 rfl _ _ _) rfl ?_;exact ⟨⟨_,rfl,Err.mono hE (by simp)⟩,Kp.trans ((Kp.refl _ _).drewN _) hk1⟩
   ·obtain rfl:i=n:=(by omega);obtain ⟨af,hvf,hrunf⟩:=VW.from_ HV.out hC1 i i rfl (by omega);obtain rfl:R.bad=r:=(by rw [<- HRi.out];exact (txt_stop (by omega)).symm);clear hvf;go_wp2_with fail
    refine (newErr_c _ _ _ _ _ (by omega)).mono ?_;rintro e w1 ⟨⟨v,rfl,hE⟩,hk1⟩;go_wp2_with fail
    refine bodyPost_ret (results_tmp4 rfl _ _ _) rfl ?_;exact ⟨⟨_,rfl,Err.mono hE (by simp)⟩,Kp.trans ((Kp.refl _ _).drewN _) hk1⟩
def EndAt (i n:Nat) (x:Int):Prop:=x=-1\/((i:Int)<=x/\x<n)
theorem bend_c (D:Doc) (A a:Option Addr) (C k n c i:Nat) (w:World) (hd:DocAt D A C w) (hv:VW D A C k a n c) (hi:i<=n+1) :
  Calls Tryz.prog 116 #[.slice a n c,.int .i64 i] w fun e w' => w'=w/\∃ x,e=.returned (.int .i64 x)/\EndAt i n x:=by
 have hs:=D.small;have hC1:=hd.1;have hln:=qql hv.len;have hln':=qql hv.len.symm;have HD:=qqh hd;have HV:=qqh hv;clear hd hv;go_enter Tryz.func116,Tryz.ntmps116;go_wp2_with fail
 go_loop [1] (fun x => ∃ j:Nat,i<=j/\j<=n+1/\x=.int .i64 j) (fun x => n+1 - (intOf x).toNat)
 case atStart => exact ⟨i,by omega,hi,rfl⟩
 case round =>
  obtain ⟨j,hj1,hj2,rfl⟩:=hrel;rcases qqg j n with hl | hl
  ·obtain ⟨bd,q,rfl,hb⟩:=HV.out.bytes HD.out (by omega);have b0:=hb j (by omega);clear hb;by_cases h34:D.c (k+j)=34
   ·have e1:((D.c (k+j):Int) == 34)=true:=(by rw [beq_iff_eq];omega);clear h34;go_wp2_with fail
    go_ret;exact ⟨rfl,_,rfl,.inr ⟨by omega,by omega⟩⟩
   ·have e1:((D.c (k+j):Int) == 34)=false:=qqn (by omega);by_cases h92:D.c (k+j)=92
    ·have e2:((D.c (k+j):Int) == 92)=true:=(by rw [beq_iff_eq];omega);clear h34 h92;go_wp2_with fail
     go_round
     case rel => exact ⟨j+2,by omega,by omega,by go_num⟩
     case measure => simp [intOf];omega
    ·have e2:((D.c (k+j):Int) == 92)=false:=qqn (by omega);clear h34 h92;go_wp2_with fail
     go_round
     case rel => exact ⟨j+1,by omega,by omega,by go_num⟩
     case measure => simp [intOf];omega
  ·go_wp2_with fail
   go_ret;exact ⟨rfl,_,rfl,.inl rfl⟩
theorem escV_snoc (D:Doc):∀ (m k v:Nat),escV D k v (m+1)=16 * escV D k v m+dval (D.c (k+m)):=by
 intro m
 induction m with
 | zero => intro k v;rfl
 | succ m ih =>
  intro k v;show escV D (k+1) (16 * v+dval (D.c k)) (m+1)=16 * escV D (k+1) (16 * v+dval (D.c k)) m+_;rw [ih,show k+1+m=k+(m+1) by omega]
theorem dgN_more {D:Doc} {b:Nat}:∀ {t k:Nat},t<=dgN D b k->k+t<D.n->dval (D.c (k+t))<b->t+1<=dgN D b k:=by
 intro t
 induction t with
 | zero => intro k _ hk hd;rw [Nat.add_zero] at hk hd;rw [dgN_go hd hk];omega
 | succ t ih =>
  intro k h hk hd;by_cases hg:dval (D.c k)<b/\k<D.n
  ·rw [dgN_go hg.1 hg.2] at h ⊢;have:=ih (k:=k+1) (by omega) (by omega) (by rw [show k+1+t=k+(t+1) by omega];exact hd);omega
  ·rw [dgN,if_neg hg] at h;omega
theorem dgN_less {D:Doc} {b:Nat}:∀ {t k:Nat},b<=dval (D.c (k+t))->dgN D b k<=t:=by
 intro t
 induction t with
 | zero => intro k hd;rw [Nat.add_zero] at hd;rw [dgN_stop hd];omega
 | succ t ih =>
  intro k hd;by_cases hg:dval (D.c k)<b/\k<D.n
  ·rw [dgN_go hg.1 hg.2];have:=ih (k:=k+1) (by rw [show k+1+t=k+(t+1) by omega];exact hd);omega
  ·rw [dgN,if_neg hg];omega
theorem or16u (x y:Int) (h0:0<=x) (h1:x<268435456) (h2:0<=y) (h3:y<16):bits .or .u32 (x * 16) y=x * 16+y :=
 bits_join .u32 32 (by decide) (fun n hn0 hn1 => IntWalk.u32_in n (by omega)) 4 (x * 16) y (by omega) (by omega) (by omega) h2 (by omega) (by omega)
def UPost (D:Doc) (k base:Nat) (v:Value) (l:List UInt8) (w:World) (r:R (List UInt8)) (e:Ending) (w':World):Prop :=
 match r with
 | .good s p => (∃ v',e=.returned (.tuple #[v',.int .i64 (p - k:Nat),.nilIface])/\OwnB w' base v' (l++s))/\Kp (fun k => some k=v.ownBlock) w w'
 | _ => (∃ x,e=.returned (.tuple #[.slice none 0 0,.int .i64 0,x])/\Err w' w.heap.size x)/\Kp Nil w w'
def uniP (D:Doc) (k m:Nat):R (List UInt8) :=
 if dgN D 16 k<m then .bad
 else if escV D k 0 m > 1114111\/55296<=escV D k 0 m/\escV D k 0 m<57344 then .bad
 else .good (encU (escV D k 0 m)) (k+m)
theorem uni_c (D:Doc) (A a:Option Addr) (C k n c i m base:Nat) (v:Value) (l:List UInt8) (w:World) (hd:DocAt D A C w) (hv:VW D A C k a n c) (hi:2<=i) (hin:i<=n) (hm:m=4\/m=8) (hown:OwnB w base v l) (hbase:base<=w.heap.size) (hl:l.length<=2147483648) :
  Calls Tryz.prog 123 #[v,.slice a n c,.int .i64 i,.int .i64 m] w (UPost D k base v l w (uniP D (k+i) m)):=by
 have hs:=D.small;have hC1:=hd.1;have hC2:=hd.2.1;have hln:=qql hv.len;have hln':=qql hv.len.symm;have hcp:=qql hv.cap;have hcp':=qql hv.cap.symm;obtain ⟨sa,sl,sc,rfl⟩:=IsSl.own hown;have HO:=qqh hown;have HD:=qqh hd;have HV:=qqh hv;obtain ⟨r,hr⟩:∃ r,uniP D (k+i) m=r:=⟨_,rfl⟩;rw [hr];have HR:=qqh hr;clear hd hv hown hr;rcases qqg n (i+m) with hlt | hge
 ·have hdl:=dgN_le D 16 (k+i);obtain rfl:R.bad=r:=by rw [<- HR.out];unfold uniP;rw [if_pos (by omega)]
  obtain ⟨a',hva,hrun⟩:=VW.from_ HV.out hC1 (i - 2) ((i:Int) - 2) (by omega) (by omega);clear hva;go_enter Tryz.func123,Tryz.ntmps123;go_wp2_with fail
  refine (newErr_c _ _ _ _ _ (by omega)).mono ?_;rintro e w1 ⟨⟨v,rfl,hE⟩,hk1⟩;go_wp2_with fail
  go_ret3
  exact ⟨⟨_,rfl,hE⟩,hk1⟩
 ·obtain ⟨bd,q,rfl,hb⟩:=HV.out.bytes HD.out (by omega);have HB:=qqh hb;clear hb;go_enter Tryz.func123,Tryz.ntmps123;go_wp2_with fail
  go_loop [11,12] (fun x y => ∃ t:Nat,t<=m/\y=.int .i64 t/\x=.int .u32 (escV D (k+i) 0 t:Nat)/\t<=dgN D 16 (k+i)/\escV D (k+i) 0 t<16 ^ t) (fun x y => m - (intOf y).toNat)
  case atStart => exact ⟨0,by omega,rfl,rfl,by omega,by simp [escV]⟩
  case round =>
   obtain ⟨t,ht,rfl,rfl,htd,htv⟩:=hrel;have HTD:=qqh htd;rcases qqg t m with htm | htm
   ·have b0:=HB.out (i+t) (by omega);have hsn:=escV_snoc D t (k+i) 0;have hmo:k+i+t<D.n->dval (D.c (k+i+t))<16->t+1<=dgN D 16 (k+i):=dgN_more htd;have hle:16<=dval (D.c (k+i+t))->dgN D 16 (k+i)<=t:=dgN_less;rw [Nat.add_assoc k i t] at hsn hmo hle;have hp7:(16:Nat) ^ t<=268435456:=by
     have:(16:Nat) ^ t<=16 ^ 7:=Nat.pow_le_pow_right (by omega) (by omega);simpa using this
    obtain ⟨P,hP⟩:∃ P,escV D (k+i) 0 t=P:=⟨_,rfl⟩;rw [hP] at hsn htv ⊢;have HSN:=qqh hsn;have HMO:=qqh hmo;have HLE:=qqh hle;have HTV:=qqh htv;have hPb:(P:Int)<268435456:=(by omega);have hcl:=D.lt (k+(i+t));obtain ⟨X,hX⟩:∃ X,D.c (k+(i+t))=X:=⟨_,rfl⟩;rw [hX] at b0 hcl;have HX:=qqh hX;clear hsn hmo hle htv hp7 htd hX hP;have hend:∀ y:Nat,dval X=y->y<16->(escV D (k+i) 0 (t+1)=P * 16+y/\t+1<=dgN D 16 (k+i)/\escV D (k+i) 0 (t+1)<16 ^ (t+1)):=by
     intro y hy hy16;have h1:=HSN.out;have h2:=HMO.out (by omega);have h3:=HTV.out;rw [HX.out,hy] at h1 h2;rw [h1,Nat.pow_succ];exact ⟨by omega,h2 hy16,by omega⟩
    have HEND:=qqh hend;clear hend;by_cases h1:48<=X/\X<=57
    ·have e1:decide (48<=(X:Int))=true:=qqt (by omega);have e2:decide ((X:Int)<=57)=true:=qqt (by omega);have hy:dval X=X - 48:=(by unfold dval;rw [if_pos h1]);have HY:=qqh (HEND.out (X - 48) hy (by omega));obtain ⟨hb1,hb2⟩:=h1;clear hy;have ho:=or16u (P:Int) ((X:Int) - 48) (by omega) (by omega) (by omega) (by omega);go_wp2_with fail
     go_round
     case rel => exact ⟨t+1,by omega,by go_num,by rw [HY.out.1];exact congrArg (Value.int .u32) (by omega),HY.out.2.1,HY.out.2.2⟩
     case measure => simp [intOf];omega
    ·have k1:decide (48<=(X:Int))=false\/(decide (48<=(X:Int))=true/\decide ((X:Int)<=57)=false):=by
      rcases qqg X 48 with h | h
      ·exact .inl (qqf (by omega))
      ·exact .inr ⟨qqt (by omega),qqf (by omega)⟩
     by_cases h2:97<=X/\X<=102
     ·have f2:decide (97<=(X:Int))=true:=qqt (by omega);have g2:decide ((X:Int)<=102)=true:=qqt (by omega);have hy:dval X=X - 87:=(by unfold dval;rw [if_neg h1,if_pos h2]);have HY:=qqh (HEND.out (X - 87) hy (by omega));obtain ⟨hb1,hb2⟩:=h2;have ho:=or16u (P:Int) ((X:Int) - 97+10) (by omega) (by omega) (by omega) (by omega);clear hy;rcases k1 with a1 | ⟨a1,b1⟩
      ·go_wp2_with fail
       go_round
       case rel => exact ⟨t+1,by omega,by go_num,by rw [HY.out.1];exact congrArg (Value.int .u32) (by omega),HY.out.2.1,HY.out.2.2⟩
       case measure => simp [intOf];omega
      ·go_wp2_with fail
       go_round
       case rel => exact ⟨t+1,by omega,by go_num,by rw [HY.out.1];exact congrArg (Value.int .u32) (by omega),HY.out.2.1,HY.out.2.2⟩
       case measure => simp [intOf];omega
     have k2:decide (97<=(X:Int))=false\/(decide (97<=(X:Int))=true/\decide ((X:Int)<=102)=false):=by
      rcases qqg X 97 with h | h
      ·exact .inl (qqf (by omega))
      ·exact .inr ⟨qqt (by omega),qqf (by omega)⟩
     by_cases h3:65<=X/\X<=70
     ·have f3:decide (65<=(X:Int))=true:=qqt (by omega);have g3:decide ((X:Int)<=70)=true:=qqt (by omega);have hy:dval X=X - 55:=(by unfold dval;rw [if_neg h1,if_neg h2,if_pos h3]);have HY:=qqh (HEND.out (X - 55) hy (by omega));obtain ⟨hb1,hb2⟩:=h3;have ho:=or16u (P:Int) ((X:Int) - 65+10) (by omega) (by omega) (by omega) (by omega);clear hy;rcases k1 with a1 | ⟨a1,b1⟩
      ·rcases k2 with a2 | ⟨a2,b2⟩
       ·go_wp2_with fail
        go_round
        case rel => exact ⟨t+1,by omega,by go_num,by rw [HY.out.1];exact congrArg (Value.int .u32) (by omega),HY.out.2.1,HY.out.2.2⟩
        case measure => simp [intOf];omega
       ·go_wp2_with fail
        go_round
        case rel => exact ⟨t+1,by omega,by go_num,by rw [HY.out.1];exact congrArg (Value.int .u32) (by omega),HY.out.2.1,HY.out.2.2⟩
        case measure => simp [intOf];omega
      ·rcases k2 with a2 | ⟨a2,b2⟩
       ·go_wp2_with fail
        go_round
        case rel => exact ⟨t+1,by omega,by go_num,by rw [HY.out.1];exact congrArg (Value.int .u32) (by omega),HY.out.2.1,HY.out.2.2⟩
        case measure => simp [intOf];omega
       ·go_wp2_with fail
        go_round
        case rel => exact ⟨t+1,by omega,by go_num,by rw [HY.out.1];exact congrArg (Value.int .u32) (by omega),HY.out.2.1,HY.out.2.2⟩
        case measure => simp [intOf];omega
     have k3:decide (65<=(X:Int))=false\/(decide (65<=(X:Int))=true/\decide ((X:Int)<=70)=false):=by
      rcases qqg X 65 with h | h
      ·exact .inl (qqf (by omega))
      ·exact .inr ⟨qqt (by omega),qqf (by omega)⟩
     have hbad:Hid (R.bad=r):=by
      show _=_;rw [<- HR.out];unfold uniP;have:=HLE.out (by rw [HX.out];unfold dval;rw [if_neg h1,if_neg h2,if_neg h3];omega);rw [if_pos (by omega)]
     obtain ⟨asl,hvs,hrun⟩:=VW.sub HV.out hC1 (i+t) (i+t+1) ((i:Int)+(t:Int)) ((i:Int)+(t:Int)+1) (by omega) (by omega) (by omega) (by omega);clear hvs;obtain rfl:=hbad.out;clear h1 h2 h3;rcases k1 with a1 | ⟨a1,b1⟩
     ·rcases k2 with a2 | ⟨a2,b2⟩
      ·rcases k3 with a3 | ⟨a3,b3⟩
       ·go_wp2_with fail
        refine (newErr_c _ _ _ _ _ (by omega)).mono ?_;rintro e w1 ⟨⟨v,rfl,hE⟩,hk1⟩;go_wp2_with fail
        go_ret3
        exact ⟨⟨_,rfl,hE⟩,hk1⟩
       ·go_wp2_with fail
        refine (newErr_c _ _ _ _ _ (by omega)).mono ?_;rintro e w1 ⟨⟨v,rfl,hE⟩,hk1⟩;go_wp2_with fail
        go_ret3
        exact ⟨⟨_,rfl,hE⟩,hk1⟩
      ·rcases k3 with a3 | ⟨a3,b3⟩
       ·go_wp2_with fail
        refine (newErr_c _ _ _ _ _ (by omega)).mono ?_;rintro e w1 ⟨⟨v,rfl,hE⟩,hk1⟩;go_wp2_with fail
        go_ret3
        exact ⟨⟨_,rfl,hE⟩,hk1⟩
       ·go_wp2_with fail
        refine (newErr_c _ _ _ _ _ (by omega)).mono ?_;rintro e w1 ⟨⟨v,rfl,hE⟩,hk1⟩;go_wp2_with fail
        go_ret3
        exact ⟨⟨_,rfl,hE⟩,hk1⟩
     ·rcases k2 with a2 | ⟨a2,b2⟩
      ·rcases k3 with a3 | ⟨a3,b3⟩
       ·go_wp2_with fail
        refine (newErr_c _ _ _ _ _ (by omega)).mono ?_;rintro e w1 ⟨⟨v,rfl,hE⟩,hk1⟩;go_wp2_with fail
        go_ret3
        exact ⟨⟨_,rfl,hE⟩,hk1⟩
       ·go_wp2_with fail
        refine (newErr_c _ _ _ _ _ (by omega)).mono ?_;rintro e w1 ⟨⟨v,rfl,hE⟩,hk1⟩;go_wp2_with fail
        go_ret3
        exact ⟨⟨_,rfl,hE⟩,hk1⟩
      ·rcases k3 with a3 | ⟨a3,b3⟩
       ·go_wp2_with fail
        refine (newErr_c _ _ _ _ _ (by omega)).mono ?_;rintro e w1 ⟨⟨v,rfl,hE⟩,hk1⟩;go_wp2_with fail
        go_ret3
        exact ⟨⟨_,rfl,hE⟩,hk1⟩
       ·go_wp2_with fail
        refine (newErr_c _ _ _ _ _ (by omega)).mono ?_;rintro e w1 ⟨⟨v,rfl,hE⟩,hk1⟩;go_wp2_with fail
        go_ret3
        exact ⟨⟨_,rfl,hE⟩,hk1⟩
   ·obtain rfl:t=m:=(by omega);have hdg:=HTD.out;obtain ⟨V,hV⟩:∃ V,escV D (k+i) 0 t=V:=⟨_,rfl⟩;have hp8:(16:Nat) ^ t<=4294967296:=by
     have:(16:Nat) ^ t<=16 ^ 8:=Nat.pow_le_pow_right (by omega) (by omega);simpa using this
    have hrr:r=if V > 1114111\/55296<=V/\V<57344 then .bad else .good (encU V) (k+i+t):=(by rw [<- HR.out];unfold uniP;rw [if_neg (by omega),hV]);rw [hV] at htv ⊢;have HRR:=qqh hrr;have hVb:(V:Int)<=4294967295:=(by omega);obtain ⟨asl,hvs,hrun⟩:=VW.sub HV.out hC1 (i - 2) (i+t) ((i:Int) - 2) ((i:Int)+(t:Int)) (by omega) (by omega) (by omega) (by omega);clear hvs hrr hV htv hp8 hdg htd;by_cases c1:V > 1114111
    ·have e1:decide (1114111<(V:Int))=true:=qqt (by omega);obtain rfl:R.bad=r:=(by rw [HRR.out,if_pos (.inl c1)]);clear c1;go_wp2_with fail
     refine (newErr_c _ _ _ _ _ (by omega)).mono ?_;rintro e w1 ⟨⟨v,rfl,hE⟩,hk1⟩;go_wp2_with fail
     go_ret3
     exact ⟨⟨_,rfl,hE⟩,hk1⟩
    have e1:decide (1114111<(V:Int))=false:=qqf (by omega);by_cases c2:55296<=V/\V<57344
    ·have e2:decide (55296<=(V:Int))=true:=qqt (by omega);have e3:decide ((V:Int)<=57343)=true:=qqt (by omega);obtain rfl:R.bad=r:=(by rw [HRR.out,if_pos (.inr c2)]);clear c1 c2;go_wp2_with fail
     refine (newErr_c _ _ _ _ _ (by omega)).mono ?_;rintro e w1 ⟨⟨v,rfl,hE⟩,hk1⟩;go_wp2_with fail
     go_ret3
     exact ⟨⟨_,rfl,hE⟩,hk1⟩
    obtain rfl:R.good (encU V) (k+i+t)=r:=(by rw [HRR.out,if_neg (by omega)]);have hvv:Hid (validN V):=(by show V<55296\/(57344<=V/\V<=1114111);omega);have hVs:(V:Int)<=1114111:=(by omega);have e23:decide (55296<=(V:Int))=false\/(decide (55296<=(V:Int))=true/\decide ((V:Int)<=57343)=false):=by
     rcases qqg V 55296 with h | h
     ·exact .inl (qqf (by omega))
     ·exact .inr ⟨qqt (by omega),qqf (by omega)⟩
    clear c1 c2;rcases e23 with e2 | ⟨e2,e3⟩
    ·go_wp2_with fail
     refine (rune_c base _ l V _ HO.out hbase hvv.out hl).mono ?_;rintro e w1 ⟨⟨v',rfl,hown1⟩,hk1⟩;obtain ⟨sa',sl',sc',rfl⟩:=IsSl.own hown1;go_wp2_with fail
     go_ret3
     exact ⟨⟨_,by rw [show k+i+t - k=i+t by omega];rfl,hown1⟩,hk1⟩
    ·go_wp2_with fail
     refine (rune_c base _ l V _ HO.out hbase hvv.out hl).mono ?_;rintro e w1 ⟨⟨v',rfl,hown1⟩,hk1⟩;obtain ⟨sa',sl',sc',rfl⟩:=IsSl.own hown1;go_wp2_with fail
     go_ret3
     exact ⟨⟨_,by rw [show k+i+t - k=i+t by omega];rfl,hown1⟩,hk1⟩
theorem unesc_c (D:Doc) (A a:Option Addr) (C k n c i base:Nat) (v:Value) (l:List UInt8) (w:World) (hd:DocAt D A C w) (hv:VW D A C k a n c) (hi:1<=i) (hin:i<n) (hown:OwnB w base v l) (hbase:base<=w.heap.size) (hl:l.length<=2147483648) (hno:esc D (k+i) ≠ .opn) :
  Calls Tryz.prog 115 #[v,.slice a n c,.int .i64 i] w (UPost D k base v l w (esc D (k+i))):=by
 have hs:=D.small;have hC1:=hd.1;have hC2:=hd.2.1;have hln:=qql hv.len;have hln':=qql hv.len.symm;have hcp:=qql hv.cap;have hcp':=qql hv.cap.symm;obtain ⟨sa,sl,sc,rfl⟩:=IsSl.own hown;obtain ⟨bd,q,rfl,hb⟩:=hv.bytes hd (by omega);have b0:=hb i (by omega);have HO:=qqh hown;have HD:=qqh hd;have HV:=qqh hv;obtain ⟨r,hr⟩:∃ r,esc D (k+i)=r:=⟨_,rfl⟩;rw [hr] at hno ⊢;have HR:=qqh hr;obtain ⟨X,hX⟩:∃ X,D.c (k+i)=X:=⟨_,rfl⟩;rw [hX] at b0;have HX:=qqh hX;clear hd hv hown hr hb hX;by_cases h34:X=34
 ·have e34:((X:Int) == 34)=true:=by rw [beq_iff_eq];omega
  obtain rfl:R.good [UInt8.ofNat 34] (k+i+1)=r:=by rw [<- HR.out];unfold esc escB;rw [HX.out,h34];rfl
  obtain ⟨x0,h0⟩:∃ x,UInt8.ofNat 34=x:=⟨_,rfl⟩;have t0:x0.toNat=34:=by rw [<- h0];rfl
  rw [h0];have T0:=qqh t0;clear h0 t0 h34;go_enter Tryz.func115,Tryz.ntmps115;go_wp2_with (at_builtin;refine wpList_app_bytes rfl _ _ rfl base _ l [x0] rfl (by exact own_alloc HO.out _) w.heap.size 0 _ rfl ?c1 ?c2 ?c3 ?_)
  case c1 =>
   intro j hj;rw [cell_newI (by simp)]
   match j,hj with
   | 0,_ => simp [T0.out]
  case c2 => simp;omega
  case c3 => simp;omega
  intro v' w1 hown1 hg1;obtain ⟨sa',sl',sc',rfl⟩:=IsSl.own hown1;go_wp2_with fail
  go_ret3
  exact ⟨⟨_,by rw [show k+i+1 - k=i+1 by omega];rfl,hown1⟩,Kp.then ((Kp.refl (fun k => some k=(Value.slice sa sl sc).ownBlock) w).alloc _) (Kp.ofGrown hg1) (fun i hi => .inl hi)⟩
 have e34:((X:Int) == 34)=false:=qqn (by omega);by_cases h92:X=92
 ·have e92:((X:Int) == 92)=true:=by rw [beq_iff_eq];omega
  obtain rfl:R.good [UInt8.ofNat 92] (k+i+1)=r:=by rw [<- HR.out];unfold esc escB;rw [HX.out,h92];rfl
  obtain ⟨x0,h0⟩:∃ x,UInt8.ofNat 92=x:=⟨_,rfl⟩;have t0:x0.toNat=92:=by rw [<- h0];rfl
  rw [h0];have T0:=qqh t0;clear h0 t0 h92;go_enter Tryz.func115,Tryz.ntmps115;go_wp2_with (at_builtin;refine wpList_app_bytes rfl _ _ rfl base _ l [x0] rfl (by exact own_alloc HO.out _) w.heap.size 0 _ rfl ?c1 ?c2 ?c3 ?_)
  case c1 =>
   intro j hj;rw [cell_newI (by simp)]
   match j,hj with
   | 0,_ => simp [T0.out]
  case c2 => simp;omega
  case c3 => simp;omega
  intro v' w1 hown1 hg1;obtain ⟨sa',sl',sc',rfl⟩:=IsSl.own hown1;go_wp2_with fail
  go_ret3
  exact ⟨⟨_,by rw [show k+i+1 - k=i+1 by omega];rfl,hown1⟩,Kp.then ((Kp.refl (fun k => some k=(Value.slice sa sl sc).ownBlock) w).alloc _) (Kp.ofGrown hg1) (fun i hi => .inl hi)⟩
 have e92:((X:Int) == 92)=false:=qqn (by omega);by_cases h98:X=98
 ·have e98:((X:Int) == 98)=true:=by rw [beq_iff_eq];omega
  obtain rfl:R.good [UInt8.ofNat 8] (k+i+1)=r:=by rw [<- HR.out];unfold esc escB;rw [HX.out,h98];rfl
  obtain ⟨x0,h0⟩:∃ x,UInt8.ofNat 8=x:=⟨_,rfl⟩;have t0:x0.toNat=8:=by rw [<- h0];rfl
  rw [h0];have T0:=qqh t0;clear h0 t0 h98;go_enter Tryz.func115,Tryz.ntmps115;go_wp2_with (at_builtin;refine wpList_app_bytes rfl _ _ rfl base _ l [x0] rfl (by exact own_alloc HO.out _) w.heap.size 0 _ rfl ?c1 ?c2 ?c3 ?_)
  case c1 =>
   intro j hj;rw [cell_newI (by simp)]
   match j,hj with
   | 0,_ => simp [T0.out]
  case c2 => simp;omega
  case c3 => simp;omega
  intro v' w1 hown1 hg1;obtain ⟨sa',sl',sc',rfl⟩:=IsSl.own hown1;go_wp2_with fail
  go_ret3
  exact ⟨⟨_,by rw [show k+i+1 - k=i+1 by omega];rfl,hown1⟩,Kp.then ((Kp.refl (fun k => some k=(Value.slice sa sl sc).ownBlock) w).alloc _) (Kp.ofGrown hg1) (fun i hi => .inl hi)⟩
 have e98:((X:Int) == 98)=false:=qqn (by omega);by_cases h102:X=102
 ·have e102:((X:Int) == 102)=true:=by rw [beq_iff_eq];omega
  obtain rfl:R.good [UInt8.ofNat 12] (k+i+1)=r:=by rw [<- HR.out];unfold esc escB;rw [HX.out,h102];rfl
  obtain ⟨x0,h0⟩:∃ x,UInt8.ofNat 12=x:=⟨_,rfl⟩;have t0:x0.toNat=12:=by rw [<- h0];rfl
  rw [h0];have T0:=qqh t0;clear h0 t0 h102;go_enter Tryz.func115,Tryz.ntmps115;go_wp2_with (at_builtin;refine wpList_app_bytes rfl _ _ rfl base _ l [x0] rfl (by exact own_alloc HO.out _) w.heap.size 0 _ rfl ?c1 ?c2 ?c3 ?_)
  case c1 =>
   intro j hj;rw [cell_newI (by simp)]
   match j,hj with
   | 0,_ => simp [T0.out]
  case c2 => simp;omega
  case c3 => simp;omega
  intro v' w1 hown1 hg1;obtain ⟨sa',sl',sc',rfl⟩:=IsSl.own hown1;go_wp2_with fail
  go_ret3
  exact ⟨⟨_,by rw [show k+i+1 - k=i+1 by omega];rfl,hown1⟩,Kp.then ((Kp.refl (fun k => some k=(Value.slice sa sl sc).ownBlock) w).alloc _) (Kp.ofGrown hg1) (fun i hi => .inl hi)⟩
 have e102:((X:Int) == 102)=false:=qqn (by omega);by_cases h110:X=110
 ·have e110:((X:Int) == 110)=true:=by rw [beq_iff_eq];omega
  obtain rfl:R.good [UInt8.ofNat 10] (k+i+1)=r:=by rw [<- HR.out];unfold esc escB;rw [HX.out,h110];rfl
  obtain ⟨x0,h0⟩:∃ x,UInt8.ofNat 10=x:=⟨_,rfl⟩;have t0:x0.toNat=10:=by rw [<- h0];rfl
  rw [h0];have T0:=qqh t0;clear h0 t0 h110;go_enter Tryz.func115,Tryz.ntmps115;go_wp2_with (at_builtin;refine wpList_app_bytes rfl _ _ rfl base _ l [x0] rfl (by exact own_alloc HO.out _) w.heap.size 0 _ rfl ?c1 ?c2 ?c3 ?_)
  case c1 =>
   intro j hj;rw [cell_newI (by simp)]
   match j,hj with
   | 0,_ => simp [T0.out]
  case c2 => simp;omega
  case c3 => simp;omega
  intro v' w1 hown1 hg1;obtain ⟨sa',sl',sc',rfl⟩:=IsSl.own hown1;go_wp2_with fail
  go_ret3
  exact ⟨⟨_,by rw [show k+i+1 - k=i+1 by omega];rfl,hown1⟩,Kp.then ((Kp.refl (fun k => some k=(Value.slice sa sl sc).ownBlock) w).alloc _) (Kp.ofGrown hg1) (fun i hi => .inl hi)⟩
 have e110:((X:Int) == 110)=false:=qqn (by omega);by_cases h114:X=114
 ·have e114:((X:Int) == 114)=true:=by rw [beq_iff_eq];omega
  obtain rfl:R.good [UInt8.ofNat 13] (k+i+1)=r:=by rw [<- HR.out];unfold esc escB;rw [HX.out,h114];rfl
  obtain ⟨x0,h0⟩:∃ x,UInt8.ofNat 13=x:=⟨_,rfl⟩;have t0:x0.toNat=13:=by rw [<- h0];rfl
  rw [h0];have T0:=qqh t0;clear h0 t0 h114;go_enter Tryz.func115,Tryz.ntmps115;go_wp2_with (at_builtin;refine wpList_app_bytes rfl _ _ rfl base _ l [x0] rfl (by exact own_alloc HO.out _) w.heap.size 0 _ rfl ?c1 ?c2 ?c3 ?_)
  case c1 =>
   intro j hj;rw [cell_newI (by simp)]
   match j,hj with
   | 0,_ => simp [T0.out]
  case c2 => simp;omega
  case c3 => simp;omega
  intro v' w1 hown1 hg1;obtain ⟨sa',sl',sc',rfl⟩:=IsSl.own hown1;go_wp2_with fail
  go_ret3
  exact ⟨⟨_,by rw [show k+i+1 - k=i+1 by omega];rfl,hown1⟩,Kp.then ((Kp.refl (fun k => some k=(Value.slice sa sl sc).ownBlock) w).alloc _) (Kp.ofGrown hg1) (fun i hi => .inl hi)⟩
 have e114:((X:Int) == 114)=false:=qqn (by omega);by_cases h116:X=116
 ·have e116:((X:Int) == 116)=true:=by rw [beq_iff_eq];omega
  obtain rfl:R.good [UInt8.ofNat 9] (k+i+1)=r:=by rw [<- HR.out];unfold esc escB;rw [HX.out,h116];rfl
  obtain ⟨x0,h0⟩:∃ x,UInt8.ofNat 9=x:=⟨_,rfl⟩;have t0:x0.toNat=9:=by rw [<- h0];rfl
  rw [h0];have T0:=qqh t0;clear h0 t0 h116;go_enter Tryz.func115,Tryz.ntmps115;go_wp2_with (at_builtin;refine wpList_app_bytes rfl _ _ rfl base _ l [x0] rfl (by exact own_alloc HO.out _) w.heap.size 0 _ rfl ?c1 ?c2 ?c3 ?_)
  case c1 =>
   intro j hj;rw [cell_newI (by simp)]
   match j,hj with
   | 0,_ => simp [T0.out]
  case c2 => simp;omega
  case c3 => simp;omega
  intro v' w1 hown1 hg1;obtain ⟨sa',sl',sc',rfl⟩:=IsSl.own hown1;go_wp2_with fail
  go_ret3
  exact ⟨⟨_,by rw [show k+i+1 - k=i+1 by omega];rfl,hown1⟩,Kp.then ((Kp.refl (fun k => some k=(Value.slice sa sl sc).ownBlock) w).alloc _) (Kp.ofGrown hg1) (fun i hi => .inl hi)⟩
 have e116:((X:Int) == 116)=false:=qqn (by omega);by_cases h101:X=101
 ·exact absurd (by rw [<- HR.out];unfold esc escB;rw [HX.out,h101];rfl) hno
 have e101:((X:Int) == 101)=false:=qqn (by omega);by_cases h120:X=120
 ·exact absurd (by rw [<- HR.out];unfold esc escB;rw [HX.out,h120];rfl) hno
 have e120:((X:Int) == 120)=false:=qqn (by omega);by_cases h117:X=117
 ·have e117:((X:Int) == 117)=true:=by rw [beq_iff_eq];omega
  have hu:uniP D (k+i+1) 4=r:=by
   rw [<- HR.out];unfold esc escB escM uniP;rw [HX.out,h117]
   rfl
  have HU:=qqh hu;clear hu h117;go_enter Tryz.func115,Tryz.ntmps115;go_wp2_with fail
  refine (uni_c D A _ C k n c (i+1) 4 base _ l _ (by exact HD.out) HV.out (by omega) (by omega) (by omega) HO.out hbase hl).mono ?_;rintro e w1 hpost;rw [Nat.add_assoc] at HU;rw [HU.out] at hpost;cases r with
  | good s p =>
   obtain ⟨⟨v',rfl,hown1⟩,hk1⟩:=hpost;obtain ⟨sa',sl',sc',rfl⟩:=IsSl.own hown1;go_wp2_with fail
   go_ret3
   exact ⟨⟨_,rfl,hown1⟩,hk1⟩
  | bad =>
   obtain ⟨⟨x,rfl,hE⟩,hk1⟩:=hpost;go_wp2_with fail
   go_ret3
   exact ⟨⟨_,rfl,hE⟩,hk1⟩
  | opn =>
   exact absurd rfl hno
 have e117:((X:Int) == 117)=false:=qqn (by omega);by_cases h85:X=85
 ·have e85:((X:Int) == 85)=true:=by rw [beq_iff_eq];omega
  have hu:uniP D (k+i+1) 8=r:=by
   rw [<- HR.out];unfold esc escB escM uniP;rw [HX.out,h85]
   rfl
  have HU:=qqh hu;clear hu h85;go_enter Tryz.func115,Tryz.ntmps115;go_wp2_with fail
  refine (uni_c D A _ C k n c (i+1) 8 base _ l _ (by exact HD.out) HV.out (by omega) (by omega) (by omega) HO.out hbase hl).mono ?_;rintro e w1 hpost;rw [Nat.add_assoc] at HU;rw [HU.out] at hpost;cases r with
  | good s p =>
   obtain ⟨⟨v',rfl,hown1⟩,hk1⟩:=hpost;obtain ⟨sa',sl',sc',rfl⟩:=IsSl.own hown1;go_wp2_with fail
   go_ret3
   exact ⟨⟨_,rfl,hown1⟩,hk1⟩
  | bad =>
   obtain ⟨⟨x,rfl,hE⟩,hk1⟩:=hpost;go_wp2_with fail
   go_ret3
   exact ⟨⟨_,rfl,hE⟩,hk1⟩
  | opn =>
   exact absurd rfl hno
 have e85:((X:Int) == 85)=false:=qqn (by omega);obtain rfl:R.bad=r:=by
  rw [<- HR.out];unfold esc escB escM;rw [HX.out,if_neg h98,if_neg h116,if_neg h110,if_neg h102,if_neg h114,if_neg h34,if_neg h92,if_neg (by simp),if_neg (by omega),if_neg h117,if_neg h85,if_pos rfl]
 obtain ⟨asl,hvs,hrun⟩:=VW.sub HV.out hC1 (i - 1) (i+1) ((i:Int) - 1) ((i:Int)+1) (by omega) (by omega) (by omega) (by omega);clear hvs h34 h92 h98 h102 h110 h114 h116 h101 h120 h117 h85 hno;go_enter Tryz.func115,Tryz.ntmps115;go_wp2_with fail
 refine (newErr_c _ _ _ _ _ (by omega)).mono ?_;rintro e w1 ⟨⟨v,rfl,hE⟩,hk1⟩;go_wp2_with fail
 go_ret3
 exact ⟨⟨_,rfl,hE⟩,hk1⟩
def qrun (D:Doc) (q p:Nat):Nat:=if D.c p=q/\p<D.n then qrun D q (p+1)+1 else 0
termination_by D.n - p
theorem qrun_go {D:Doc} {q p:Nat} (h:D.c p=q) (hp:p<D.n):qrun D q p=qrun D q (p+1)+1:=by rw [qrun,if_pos ⟨h,hp⟩]
theorem qrun_stop {D:Doc} {q p:Nat} (h:D.c p ≠ q\/D.n<=p):qrun D q p=0:=by rw [qrun,if_neg (by omega)]
theorem qrun_all (D:Doc) (q:Nat):∀ (m p:Nat),D.n - p=m->(∀ i,i<qrun D q p->D.c (p+i)=q)/\(p<=D.n->p+qrun D q p<=D.n)/\(p+qrun D q p<D.n->D.c (p+qrun D q p) ≠ q):=by
 intro m
 induction m using Nat.strongRecOn with
 | _ m ih =>
  intro p hm;by_cases h:D.c p=q/\p<D.n
  ·rw [qrun_go h.1 h.2];obtain ⟨h1,h2,h3⟩:=ih (D.n - (p+1)) (by omega) (p+1) rfl;refine ⟨fun i hi => ?_,fun _ => by have:=h2 (by omega);omega,fun hlt => ?_⟩
   ·cases i with
    | zero => exact h.1
    | succ i => rw [show p+(i+1)=p+1+i by omega];exact h1 i (by omega)
   ·rw [show p+(qrun D q (p+1)+1)=p+1+qrun D q (p+1) by omega];exact h3 (by omega)
  ·rw [qrun_stop (by omega)];exact ⟨fun i hi => absurd hi (Nat.not_lt_zero i),fun h => h,fun hlt => by rw [Nat.add_zero] at *;omega⟩
theorem qrun_not (D:Doc) (q p:Nat) (hq:q ≠ 0):D.c (p+qrun D q p) ≠ q:=by
 have h:=qrun_all D q _ p rfl;rcases qqg (p+qrun D q p) D.n with hl | hl
 ·exact h.2.2 hl
 ·rw [D.out _ hl];omega
theorem lin_one {D:Doc} {q p:Nat} {acc:List UInt8} (h:p<D.n) (h1:sg D p=1) (hq:¬ three D q p) (hb:¬ (D.c p=92/\q=34)) (h2:D.c p ≠ 10/\D.c p ≠ 13):linRun D q p acc=linRun D q (p+1) (acc++D.sub p 1):=by
 have:=lin_go (acc:=acc) h hq hb h2.1 (fun x => h2.2 x.1) (by omega);rw [h1] at this;exact this
theorem not_three {D:Doc} {q p:Nat} (h:D.c p ≠ q):¬ three D q p:=fun x => h x.1
theorem sub_one (D:Doc) (p x:Nat) (h:D.c p=x):D.sub p 1=[UInt8.ofNat x]:=by rw [Doc.sub_succ,Doc.sub_zero,h]
theorem lin_nl' {D:Doc} {q p:Nat} {acc:List UInt8} (h:D.c p=10) (hq:q ≠ 10):linRun D q p acc=linRun D q (p+1) (acc++D.sub p 1):=by
 have:=Doc.in_of (D:=D) (k:=p) (by omega);rw [lin_nl this (not_three (by omega)) (by omega) h,sub_one D p 10 h];rfl
theorem lin_crnl' {D:Doc} {q p:Nat} {acc:List UInt8} (h:D.c p=13/\D.c (p+1)=10) (hq:q ≠ 13):linRun D q p acc=linRun D q (p+2) (acc++D.sub p 2):=by
 have:=Doc.in_of (D:=D) (k:=p) (by omega);rw [lin_crnl this (not_three (by omega)) (by omega) (by omega) h,Doc.sub_succ,sub_one D (p+1) 10 h.2,h.1];rfl
theorem lin_utf (D:Doc) (q:Nat) (hq:q<128):∀ (m p:Nat) (acc:List UInt8),D.n - p=m->linRun D q p acc=if (utf D p).2=true then linRun D q (utf D p).1 (acc++D.sub p ((utf D p).1 - p)) else .bad:=by
 intro m
 induction m using Nat.strongRecOn with
 | _ m ih =>
  intro p acc hm;rcases qqg p D.n with h | h
  ·rcases qqg (D.c p) 128 with h1 | h1
   ·rw [utf_low h1];simp only [if_true,Nat.sub_self,Doc.sub_zero,List.append_nil]
   ·by_cases h2:sg D p=0
    ·rw [utf_bad h h1 h2,lin_bad h (not_three (by omega)) (by omega) (by omega) (by omega) h2];rfl
    ·rw [utf_go h h1 h2,lin_go h (not_three (by omega)) (by omega) (by omega) (by omega) h2,ih (D.n - (p+sg D p)) (by omega) _ _ rfl];have h3:=utf_ge D _ (p+sg D p) rfl;split
     ·rw [List.append_assoc,show (utf D (p+sg D p)).1 - p=sg D p+((utf D (p+sg D p)).1 - (p+sg D p)) by omega,Doc.sub_add]
     ·rfl
  ·rw [utf_end h];simp only [if_true,Nat.sub_self,Doc.sub_zero,List.append_nil]
theorem lin_few {D:Doc} {q p:Nat} {acc:List UInt8} (hq:q=34\/q=39) (hm:qrun D q p<=2):linRun D q p acc=linRun D q (p+qrun D q p) (acc++D.sub p (qrun D q p)):=by
 have hn:=qrun_not D q p (by omega);have ha:=qrun_all D q _ p rfl;obtain ⟨m,he⟩:∃ m,qrun D q p=m:=⟨_,rfl⟩;rw [he] at hn ha hm ⊢;have hs:∀ j,D.c j=q->sg D j=1:=fun j h => sg_plain (by omega)
 match m,hm,hn,ha with
 | 0,_,_,_ => rw [Doc.sub_zero,List.append_nil];rfl
 | 1,_,hn,ha =>
  have h0:=ha.1 0 (by omega);rw [Nat.add_zero] at h0;have:=Doc.in_of (D:=D) (k:=p) (by omega);exact lin_one this (hs p h0) (fun x => hn x.2.1) (by omega) (by omega)
 | 2,_,hn,ha =>
  have h0:=ha.1 0 (by omega);have h1:=ha.1 1 (by omega);rw [Nat.add_zero] at h0;have:=Doc.in_of (D:=D) (k:=p) (by omega);have:=Doc.in_of (D:=D) (k:=p+1) (by omega);rw [lin_one (by omega) (hs p h0) (fun x => hn x.2.2) (by omega) (by omega),lin_one (by omega) (hs (p+1) h1) (fun x => hn x.2.1) (by omega) (by omega),List.append_assoc,<- Doc.sub_add]
theorem lin_close {D:Doc} {q p:Nat} {acc:List UInt8} (hq:q=34\/q=39) (hm:3<=qrun D q p):linRun D q p acc=.good (acc++D.sub p (min (qrun D q p) 5 - 3)) (p+min (qrun D q p) 5):=by
 have hn:=qrun_not D q p (by omega);have ha:=(qrun_all D q _ p rfl).1;obtain ⟨m,he⟩:∃ m,qrun D q p=m:=⟨_,rfl⟩;rw [he] at hn ha hm ⊢;have h0:=ha 0 (by omega);have h1:=ha 1 (by omega);have h2:=ha 2 (by omega);rw [Nat.add_zero] at h0;have:=Doc.in_of (D:=D) (k:=p) (by omega);rw [lin_end this ⟨h0,h1,h2⟩];have hmo:more D q p=min m 5 - 3:=by
  unfold more;rcases qqg m 4 with h3 | h3
  ·obtain rfl:m=3:=(by omega);rw [if_neg hn];rfl
  ·rw [if_pos (ha 3 (by omega))];rcases qqg m 5 with h4 | h4
   ·obtain rfl:m=4:=(by omega);rw [if_neg hn];rfl
   ·rw [if_pos (ha 4 (by omega))];omega
 have hrep:∀ t,t<=2->t<=m->List.replicate t (UInt8.ofNat q)=D.sub p t:=by
  intro t ht htm
  match t,ht with
  | 0,_ => rw [Doc.sub_zero];rfl
  | 1,_ => rw [sub_one D p q h0];rfl
  | 2,_ => rw [Doc.sub_succ,sub_one D (p+1) q h1,h0];rfl
 rw [hmo,hrep _ (by omega) (by omega),show p+3+(min m 5 - 3)=p+min m 5 by omega]
def Err5 (w:World) (e:Ending) (w':World):Prop:=(∃ v,e=.returned (.tuple #[.int .i64 0,.slice none 0 0,.slice none 0 0,.slice none 0 0,v])/\Err w' w.heap.size v)/\Kp Nil w w'
def Sc5 (D:Doc) (A:Option Addr) (C k:Nat) (a:Option Addr) (c:Nat) (w:World) (K p:Nat) (e:Ending) (w':World):Prop :=
 Kp Nil w w'/\∃ a' n' c',e=.returned (.tuple #[.int .i64 (K:Nat),.slice a (p - k) c,.slice a (p - k) c,.slice a' n' c',.nilIface])/\VW D A C p a' n' c'
theorem keyword_y (D:Doc) (A a:Option Addr) (C k n c K:Nat) (l:List UInt8) (w:World) (hd:DocAt D A C w) (hv:VW D A C k a n c) (hk:k<D.n) (hl:0<l.length) (hl2:l.length<=1000) (hh:hasB D k l=true) :
  Calls Tryz.prog 107 #[.slice a n c,.string ⟨l.toArray⟩,.int .i64 (K:Nat)] w (Sc5 D A C k a c w K (k+l.length)):=by
 have hs:=D.small;have hC1:=hd.1;have hC2:=hd.2.1;have hln:=qql hv.len;have hln':=qql hv.len.symm;have hcp:=qql hv.cap;have hcp':=qql hv.cap.symm;have hsz:(⟨l.toArray⟩:ByteArray).size=l.length:=by show l.toArray.size=_;simp
 obtain ⟨S,hS⟩:∃ S:ByteArray,(⟨l.toArray⟩:ByteArray)=S:=⟨_,rfl⟩;rw [hS] at hsz ⊢;have HS:=qqh hS;clear hS;have h1:k+l.length<=D.n/\D.sub k l.length=l:=by unfold hasB at hh;simpa using hh
 obtain ⟨hge,he⟩:=h1;obtain ⟨bd,o,hA,ha⟩:=hv.at_ hk;subst hA ha;have hcell:∀ i,i<D.n->w.cell? ⟨bd,o+i,none⟩=some (.int .u8 (D.c i)):=by
  obtain ⟨_,_,h0 | ⟨bd',o',hA',hlt,hc⟩⟩:=hd
  ·omega
  ·injection hA' with hA';injection hA' with e1 e2;subst e1 e2;exact hc
 have hsz1:S.size<=n:=by omega
 have hrunt:∀ w,(Instr.slice 22 (.slice (some ⟨bd,o+k,none⟩) n c) none (some (.int .i64 (S.size:Int))) none).run Tryz.prog w=.ok (.slice (some ⟨bd,o+k,none⟩) l.length c) w:=upto_ _ n c l.length _ (by omega) (by omega);obtain ⟨af,hvf,hrunf⟩:=VW.from_ hv hC1 l.length (S.size:Int) (by omega) (by omega);have HVF:=qqh hvf;have hcv:∀ q,(convert 22 9 (.slice (some ⟨bd,o+k,none⟩) l.length q)).run Tryz.prog w=.ok (.string ⟨(D.sub k l.length).toArray⟩) w:=fun q => conv_doc D bd o k l.length q w hcell (by omega)
 clear hcell hd hv hvf;rw [he] at hcv;rw [HS.out] at hcv;have HSZ:=qqh hsz;clear he hh hsz;go_enter Tryz.func107,Tryz.ntmps107;go_wp2_with fail
 go_quiet (fail)
 go_wp2_with fail
 refine bodyPost_ret (results_tmp5 rfl _ _ _) rfl ?_;refine ⟨(Kp.refl _ _).drewN _,_,_,_,?_,HVF.out⟩;rw [show k+l.length - k=l.length by omega];rfl
theorem keyword_n (D:Doc) (A a:Option Addr) (C k n c K:Nat) (l:List UInt8) (w:World) (hd:DocAt D A C w) (hv:VW D A C k a n c) (hk:k<D.n) (hl:0<l.length) (hl2:l.length<=1000) (hh:hasB D k l=false) :
  Calls Tryz.prog 107 #[.slice a n c,.string ⟨l.toArray⟩,.int .i64 (K:Nat)] w (Err5 w):=by
 have hs:=D.small;have hC1:=hd.1;have hC2:=hd.2.1;have hln:=qql hv.len;have hln':=qql hv.len.symm;have hcp:=qql hv.cap;have hcp':=qql hv.cap.symm;have hsz:(⟨l.toArray⟩:ByteArray).size=l.length:=by show l.toArray.size=_;simp
 obtain ⟨S,hS⟩:∃ S:ByteArray,(⟨l.toArray⟩:ByteArray)=S:=⟨_,rfl⟩;rw [hS] at hsz ⊢;have HS:=qqh hS;clear hS;rcases qqg n l.length with hlt | hge
 ·have hsz1:n<S.size:=by omega
  have hrunt:=upto_ a n c n n rfl (by omega);clear hd hv hsz;go_enter Tryz.func107,Tryz.ntmps107;go_wp2_with fail
  refine (newErr_c _ _ _ _ _ (by omega)).mono ?_;rintro e w1 ⟨⟨v,rfl,hE⟩,hk1⟩;go_wp2_with fail
  refine bodyPost_ret (results_tmp5 rfl _ _ _) rfl ?_;exact ⟨⟨_,rfl,hE⟩,hk1⟩
 have he:D.sub k l.length ≠ l:=by
  intro he;unfold hasB at hh;rw [he] at hh;simp at hh;omega
 obtain ⟨bd,o,hA,ha⟩:=hv.at_ hk;subst hA ha;have hcell:∀ i,i<D.n->w.cell? ⟨bd,o+i,none⟩=some (.int .u8 (D.c i)):=by
  obtain ⟨_,_,h0 | ⟨bd',o',hA',hlt,hc⟩⟩:=hd
  ·omega
  ·injection hA' with hA';injection hA' with e1 e2;subst e1 e2;exact hc
 have hsz1:S.size<=n:=by omega
 have hrunt:∀ w,(Instr.slice 22 (.slice (some ⟨bd,o+k,none⟩) n c) none (some (.int .i64 (S.size:Int))) none).run Tryz.prog w=.ok (.slice (some ⟨bd,o+k,none⟩) l.length c) w:=upto_ _ n c l.length _ (by omega) (by omega);obtain ⟨af,hvf,hrunf⟩:=VW.from_ hv hC1 l.length (S.size:Int) (by omega) (by omega);have HVF:=qqh hvf;have hcv:∀ q,(convert 22 9 (.slice (some ⟨bd,o+k,none⟩) l.length q)).run Tryz.prog w=.ok (.string ⟨(D.sub k l.length).toArray⟩) w:=fun q => conv_doc D bd o k l.length q w hcell (by omega)
 clear hcell hd hv hvf;obtain ⟨T,hT⟩:∃ T:ByteArray,(⟨(D.sub k l.length).toArray⟩:ByteArray)=T:=⟨_,rfl⟩;have hne:(T.toList == S.toList)=false:=by
  rw [beq_eq_false_iff_ne,<- hT,<- HS.out];intro e;exact he (by simpa using e)
 rw [hT] at hcv;have HSZ:=qqh hsz;clear he hh hT hsz;go_enter Tryz.func107,Tryz.ntmps107;go_wp2_with fail
 refine (newErr_c _ _ _ _ _ (by omega)).mono ?_;rintro e w1 ⟨⟨v,rfl,hE⟩,hk1⟩;go_wp2_with fail
 refine bodyPost_ret (results_tmp5 rfl _ _ _) rfl ?_;exact ⟨⟨_,rfl,hE⟩,hk1⟩
def QbAt (D:Doc) (k n:Nat) (x:Int):Prop:=x=-1\/∃ j:Nat,x=(j:Int)/\j<n/\(D.c (k+j)=34\/D.c (k+j)=92)
theorem qb_c (D:Doc) (A a:Option Addr) (C k n c:Nat) (w:World) (hd:DocAt D A C w) (hv:VW D A C k a n c) :
  Calls Tryz.prog 122 #[.slice a n c] w fun e w' => w'=w/\∃ x,e=.returned (.int .i64 x)/\QbAt D k n x:=by
 have hs:=D.small;have hC1:=hd.1;have hln:=qql hv.len;have hln':=qql hv.len.symm;have HD:=qqh hd;have HV:=qqh hv;clear hd hv;go_enter Tryz.func122,Tryz.ntmps122;go_wp2_with fail
 go_loop [7] (fun x => ∃ j:Nat,j<=n/\x=.int .i64 j) (fun x => n - (intOf x).toNat)
 case atStart => exact ⟨0,by omega,rfl⟩
 case round =>
  obtain ⟨j,hj,rfl⟩:=hrel;rcases qqg j n with hl | hl
  ·obtain ⟨bd,q,rfl,hb⟩:=HV.out.bytes HD.out (by omega);have b0:=hb j (by omega);clear hb;by_cases h34:D.c (k+j)=34
   ·have e1:((D.c (k+j):Int) == 34)=true:=(by rw [beq_iff_eq];omega);have H:=qqh h34;clear h34;go_wp2_with fail
    go_ret;exact ⟨rfl,_,rfl,.inr ⟨j,rfl,hl,.inl H.out⟩⟩
   ·have e1:((D.c (k+j):Int) == 34)=false:=qqn (by omega);by_cases h92:D.c (k+j)=92
    ·have e2:((D.c (k+j):Int) == 92)=true:=(by rw [beq_iff_eq];omega);have H:=qqh h92;clear h34 h92;go_wp2_with fail
     go_ret;exact ⟨rfl,_,rfl,.inr ⟨j,rfl,hl,.inr H.out⟩⟩
    ·have e2:((D.c (k+j):Int) == 92)=false:=qqn (by omega);clear h34 h92;go_wp2_with fail
     go_round
     case rel => exact ⟨j+1,by omega,by go_num⟩
     case measure => simp [intOf];omega
  ·go_wp2_with fail
   go_ret;exact ⟨rfl,_,rfl,.inl rfl⟩
theorem mbend_c (D:Doc) (A a:Option Addr) (C k n c i:Nat) (w:World) (hd:DocAt D A C w) (hv:VW D A C k a n c) (hi:i<=n) :
  Calls Tryz.prog 114 #[.slice a n c,.int .i64 i] w fun e w' => w'=w/\∃ x,e=.returned (.int .i64 x)/\EndAt i n x:=by
 have hs:=D.small;have hC1:=hd.1;have hln:=qql hv.len;have hln':=qql hv.len.symm;have HD:=qqh hd;have HV:=qqh hv;clear hd hv;go_enter Tryz.func114,Tryz.ntmps114;go_wp2_with fail
 go_loop [1] (fun x => ∃ j:Nat,i<=j/\j<=n/\x=.int .i64 j) (fun x => n - (intOf x).toNat)
 case atStart => exact ⟨i,by omega,hi,rfl⟩
 case round =>
  obtain ⟨j,hj1,hj2,rfl⟩:=hrel;obtain ⟨a',hva,hrun⟩:=VW.from_ HV.out hC1 j j rfl hj2;have HVA:=qqh hva;clear hva;go_wp2_with fail
  refine (qb_c D A a' C (k+j) (n - j) (c - j) _ (by exact HD.out) HVA.out).mono ?_;rintro e w1 ⟨rfl,x,rfl,hx⟩;rcases hx with rfl | ⟨t,rfl,ht,hc⟩
  ·go_wp2_with fail
   go_ret;exact ⟨rfl,_,rfl,.inl rfl⟩
  ·obtain ⟨bd,q,rfl,hb⟩:=HV.out.bytes HD.out (by omega);have b0:=hb (j+t) (by omega);have HB:=qqh hb;clear hb;rw [Nat.add_assoc] at hc;rcases hc with h34 | h92
   ·have e1:((D.c (k+(j+t)):Int) == 92)=false:=qqn (by omega);have H34:=qqh h34;clear h34;go_wp2_with fail
    go_loop [5] (fun y => ∃ p:Nat,j+t<=p/\p<=n/\y=.int .i64 p/\Hid (j+t<p\/p=j+t)) (fun y => n - (intOf y).toNat)
    case atStart => exact ⟨j+t,by omega,by omega,by go_num,.inr rfl⟩
    case round =>
     obtain ⟨p,hp1,hp2,rfl,hp3⟩:=hrel;rcases qqg p n with hl | hl
     ·have b1:=HB.out p (by omega);by_cases hq:D.c (k+p)=34
      ·have e2:((D.c (k+p):Int) == 34)=true:=(by rw [beq_iff_eq];omega);clear hq;go_wp2_with fail
       go_round
       case rel => exact ⟨p+1,by omega,by omega,by go_num,.inl (by omega)⟩
       case measure => simp [intOf];omega
      ·have e2:((D.c (k+p):Int) == 34)=false:=qqn (by omega);have hgt:j+t<p:=by
        rcases hp3.out with h | h
        ·exact h
        ·rw [h] at hq;exact absurd H34.out hq
       clear hq hp1;by_cases h3:3<=p - (j+t)
       ·go_wp2_with fail
        go_ret;exact ⟨rfl,_,rfl,.inr ⟨by omega,by omega⟩⟩
       ·go_wp2_with fail
        go_round
        case rel => exact ⟨p,by omega,by omega,rfl⟩
        case measure => simp [intOf];omega
     ·obtain rfl:p=n:=(by omega);by_cases h3:3<=p - (j+t)
      ·go_wp2_with fail
       go_ret;exact ⟨rfl,_,rfl,.inr ⟨by omega,by omega⟩⟩
      ·go_wp2_with fail
       go_round
       case rel => exact ⟨p,by omega,by omega,rfl⟩
       case measure => simp [intOf];omega
   ·have e1:((D.c (k+(j+t)):Int) == 92)=true:=(by rw [beq_iff_eq];omega);clear h92;rcases qqg n (j+t+2) with h2 | h2
    ·go_wp2_with fail
     go_ret;exact ⟨rfl,_,rfl,.inl rfl⟩
    ·go_wp2_with fail
     go_round
     case rel => exact ⟨j+t+2,by omega,by omega,by go_num⟩
     case measure => simp [intOf];omega
theorem Doc.sub_add' (D:Doc) (a m j b:Nat) (h:b=a+m):D.sub a (m+j)=D.sub a m++D.sub b j:=by rw [h];exact Doc.sub_add D a m j
def LinPost (D:Doc) (A:Option Addr) (C k c:Nat) (w:World) (r:R (List UInt8)) (e:Ending) (w':World):Prop :=
 StrPost D A C k c w r e w'\/(Err4 w e w'/\∃ l p,r=.good l p/\(D.c p=34\/D.c p=39))
theorem mliteral_c (D:Doc) (A a:Option Addr) (C k n c:Nat) (pv:Value) (w:World) (hd:DocAt D A C w) (hv:VW D A C k a n c) (hk:k+3<=D.n) :
  Calls Tryz.prog 96 #[pv,.slice a n c] w (LinPost D A C k c w (lin D 39 k)):=by
 have hs:=D.small;have hC1:=hd.1;have hC2:=hd.2.1;have hln:=qql hv.len;have hln':=qql hv.len.symm;have hcp:=qql hv.cap;have hcp':=qql hv.cap.symm;obtain ⟨bd,q,rfl,hb⟩:=hv.bytes hd (by omega);obtain ⟨r,hr⟩:∃ r,lin D 39 k=r:=⟨_,rfl⟩;have HR1:Hid (linRun D 39 (k+(3+nlen D (k+3))) (D.sub (k+(3+nlen D (k+3))) ((3+nlen D (k+3)) - (3+nlen D (k+3))))=r):=by
  show _=_;rw [<- hr,Nat.sub_self,Doc.sub_zero,<- Nat.add_assoc];rfl
 rw [hr];have HB:=qqh hb;have HD:=qqh hd;have HV:=qqh hv;have hnl:k+(3+nlen D (k+3))<=D.n:=by
  rcases Nat.eq_zero_or_pos (nlen D (k+3)) with h | h
  ·omega
  ·have:=nlen_inq (D:=D) (k:=k+3) (by omega);omega
 have HNL:Hid (nlen D (k+3)=if D.c (k+3)=10 then 1 else if D.c (k+3)=13/\D.c (k+(3+1))=10 then 2 else 0):=rfl;obtain ⟨cs,hcs⟩:∃ cs,3+nlen D (k+3)=cs:=⟨_,rfl⟩;rw [hcs] at HR1 hnl;have HCS:=qqh hcs;have hcs3:3<=cs:=by omega
 clear hb hd hv hr hcs;rcases qqg 3 n with h3 | h3
 ·have b3:=HB.out 3 (by omega);go_enter Tryz.func96,Tryz.ntmps96;go_upto_if 25 with fail;go_cut [8] (fun x wx => x=.int .i64 (cs:Nat)/\w=wx)
  case first =>
   by_cases h10:D.c (k+3)=10
   ·have e1:((D.c (k+3):Int) == 10)=true:=(by rw [beq_iff_eq];omega);have hx:cs=4:=(by rw [<- HCS.out,HNL.out,if_pos h10]);have HX:=qqh hx;clear h10 hx;go_wp2_with fail
    go_meet;exact ⟨by rw [HX.out];rfl,rfl⟩
   ·have e1:((D.c (k+3):Int) == 10)=false:=qqn (by omega);by_cases h13:D.c (k+3)=13/\D.c (k+(3+1))=10
    ·have hin:=Doc.in_of (D:=D) (k:=k+(3+1)) (by omega);have b4:=HB.out (3+1) (by omega);have e2:((D.c (k+3):Int) == 13)=true:=(by rw [beq_iff_eq];omega);have e3:((D.c (k+(3+1)):Int) == 10)=true:=(by rw [beq_iff_eq];omega);have hx:cs=5:=(by rw [<- HCS.out,HNL.out,if_neg h10,if_pos h13]);have HX:=qqh hx;clear h10 hx h13;go_wp2_with fail
     go_meet;exact ⟨by rw [HX.out];rfl,rfl⟩
    ·have hx:cs=3:=(by rw [<- HCS.out,HNL.out,if_neg h10,if_neg h13]);have HX:=qqh hx;rcases qqg (3+1) n with h4 | h4
     ·have b4:=HB.out (3+1) (by omega);by_cases hx13:D.c (k+3)=13
      ·have e2:((D.c (k+3):Int) == 13)=true:=(by rw [beq_iff_eq];omega);have e3:((D.c (k+(3+1)):Int) == 10)=false:=qqn (by omega);clear h10 hx h13 hx13;go_wp2_with fail
       go_meet;exact ⟨by rw [HX.out];rfl,rfl⟩
      ·have e2:((D.c (k+3):Int) == 13)=false:=qqn (by omega);clear h10 hx h13 hx13;go_wp2_with fail
       go_meet;exact ⟨by rw [HX.out];rfl,rfl⟩
     ·clear h10 hx h13;go_wp2_with fail
      go_meet;exact ⟨by rw [HX.out];rfl,rfl⟩
  case rest =>
   obtain ⟨rfl,rfl⟩:=hcut;clear HNL HCS b3;go_wp2_with fail
   go_loop [8] (fun x => ∃ (j:Nat),cs<=j/\j<=n/\x=.int .i64 j/\Hid (linRun D 39 (k+j) (D.sub (k+cs) (j - cs))=r)) (fun x => n - (intOf x).toNat)
   case atStart => exact ⟨cs,by omega,by omega,rfl,HR1⟩
   case round =>
    obtain ⟨i,hi1,hi2,rfl,HRi⟩:=hrel;rcases qqg i n with hlt2 | hge2
    ·have b0:=HB.out i (by omega);have hcl:=D.lt (k+i);have hnext:∀ m,linRun D 39 (k+i) (D.sub (k+cs) (i - cs))=linRun D 39 (k+i+m) (D.sub (k+cs) (i - cs)++D.sub (k+i) m)->Hid (linRun D 39 (k+(i+m)) (D.sub (k+cs) (i+m - cs))=r):=by
      intro m h;show _=_;rw [<- HRi.out,h,show i+m - cs=(i - cs)+m by omega,Doc.sub_add,show k+cs+(i - cs)=k+i by omega,show k+(i+m)=k+i+m by omega]
     by_cases h39:D.c (k+i)=39
     ·have e1:((D.c (k+i):Int) == 39)=true:=(by rw [beq_iff_eq];omega);have hq:=qrun_all D 39 _ (k+i) rfl;have hqn:=qrun_not D 39 (k+i) (by omega);have hfew:=lin_few (D:=D) (q:=39) (p:=k+i) (acc:=D.sub (k+cs) (i - cs)) (.inr rfl);have hclose:=lin_close (D:=D) (q:=39) (p:=k+i) (acc:=D.sub (k+cs) (i - cs)) (.inr rfl);have hq1:1<=qrun D 39 (k+i):=(by rw [qrun_go h39 (by omega)];omega);obtain ⟨m,hm⟩:∃ m,qrun D 39 (k+i)=m:=⟨_,rfl⟩;rw [hm] at hq hqn hfew hclose hq1;have hle:=hq.2.1 (by omega);have HQ:=qqh hq.1;have HQN:=qqh hqn;have HF:=qqh hfew;have HCL:=qqh hclose;clear hq hqn hfew hclose hm h39
      go_upto_block 3 with fail
      go_cut [11] (fun x wx => x=.int .i64 ((i+m:Nat):Int)/\w=wx)
      case first =>
       go_wp2_with fail
       go_loop [11] (fun x => ∃ t:Nat,t<=m/\x=.int .i64 ((i+t:Nat):Int)) (fun x => n - (intOf x).toNat)
       case atStart => exact ⟨0,by omega,rfl⟩
       case round =>
        obtain ⟨t,ht,rfl⟩:=hrel;rcases qqg t m with htm | htm
        ·have bt:=HB.out (i+t) (by omega);have hh:=HQ.out t htm;have e2:((D.c (k+(i+t)):Int) == 39)=true:=(by rw [beq_iff_eq,<- Nat.add_assoc,hh];rfl);clear hh;go_wp2_with fail
         go_round
         case rel => exact ⟨t+1,by omega,by go_num⟩
         case measure => simp [intOf];omega
        ·obtain rfl:t=m:=(by omega);rcases qqg (i+t) n with hl | hl
         ·have bt:=HB.out (i+t) (by omega);have e2:((D.c (k+(i+t)):Int) == 39)=false:=by
           rw [beq_eq_false_iff_ne,<- Nat.add_assoc];have:=HQN.out;omega
          go_wp2_with fail
          go_meet;exact ⟨rfl,rfl⟩
         ·go_wp2_with fail
          go_meet;exact ⟨rfl,rfl⟩
      case rest =>
       obtain ⟨rfl,rfl⟩:=hcut;rcases qqg m 3 with hm3 | hm3
       ·have HN:=hnext m (HF.out (by omega));clear hnext;go_wp2_with fail
        go_round
        case rel => exact ⟨i+m,by omega,by omega,rfl,HN⟩
        case measure => simp [intOf];omega
       ·have hr2:=(HRi.out).symm.trans (HCL.out hm3);rcases qqg 5 m with hm5 | hm5
        ·obtain ⟨asl,hvs,hrun⟩:=VW.sub HV.out hC1 i (i+m) i ((i+m:Nat):Int) rfl rfl (by omega) (by omega);have hnext5:=HQ.out 5 hm5;rw [show min m 5=5 by omega] at hr2;have HR2:=qqh hr2;have HN5:=qqh hnext5;clear hvs hnext hr2 hnext5;go_wp2_with fail
         refine (newErr_c _ _ _ _ _ (by omega)).mono ?_;rintro e w1 ⟨⟨v,rfl,hE⟩,hk1⟩;go_wp2_with fail
         refine bodyPost_ret (results_tmp4 rfl _ _ _) rfl ?_;exact .inr ⟨⟨⟨_,rfl,hE⟩,hk1⟩,_,_,HR2.out,.inr HN5.out⟩
        ·rw [show min m 5=m by omega] at hr2;obtain rfl:=hr2;obtain ⟨af,hvf,hrunf⟩:=VW.from_ HV.out hC1 (i+m) ((i:Int)+(m:Int)) (by omega) (by omega);have hrunt:=upto_ (some ⟨bd,q,none⟩) n c (i+m) ((i:Int)+(m:Int)) (by omega) (by omega);obtain ⟨av,hvv,hrunv⟩:=VW.sub HV.out hC1 cs (i+m - 3) cs ((i:Int)+((i:Int)+(m:Int) - (i:Int)) - 3) rfl (by omega) (by omega) (by omega);have HVF:=qqh hvf;have HVV:=qqh hvv;clear hvf hvv hnext;go_wp2_with fail
         go_quiet (fail)
         go_wp2_with fail
         refine bodyPost_ret (results_tmp4 rfl _ _ _) rfl ?_;refine .inl ⟨(Kp.refl _ _).drewN _,_,_,_,_,_,rfl_str (by omega),?_,by have:=HVF.out;rw [<- Nat.add_assoc] at this;exact this⟩;rw [<- Doc.sub_add' D (k+cs) (i - cs) (m - 3) (k+i) (by omega)];have hrd:=fun nq => Rd.doc HVV.out (HD.out.kp (S:=Nil) ((Kp.refl Nil w).drewN nq) (fun _ _ h => h)) (i+m - 3 - cs) (c - cs) w.heap.size (by omega)
         rw [show i - cs+(m - 3)=i+m - 3 - cs by omega];exact hrd _
     ·have e1:((D.c (k+i):Int) == 39)=false:=qqn (by omega);have h3':¬ three D 39 (k+i):=not_three h39;rcases qqg (D.c (k+i)) 128 with hc | hc
      ·by_cases hpl:32<=D.c (k+i)/\D.c (k+i)<127
       ·have e2:decide (32<=(D.c (k+i):Int))=true:=qqt (by omega);have e3:decide ((D.c (k+i):Int)<127)=true:=qqt (by omega);have HN:=hnext 1 (lin_one (by omega) (sg_plain hpl) h3' (by omega) (by omega));clear hpl hc hnext h39 h3';go_wp2_with fail
        go_round
        case rel => exact ⟨i+1,by omega,by omega,by go_num,HN⟩
        case measure => simp [intOf];omega
       ·by_cases h9:D.c (k+i)=9
        ·have e2:decide (32<=(D.c (k+i):Int))=false:=qqf (by omega);have e4:((D.c (k+i):Int) == 9)=true:=(by rw [beq_iff_eq];omega);have HN:=hnext 1 (lin_one (by omega) (sg_tab h9) h3' (by omega) (by omega));clear hpl hc hnext h39 h9 h3';go_wp2_with fail
         go_round
         case rel => exact ⟨i+1,by omega,by omega,by go_num,HN⟩
         case measure => simp [intOf];omega
        ·have e4:((D.c (k+i):Int) == 9)=false:=qqn (by omega);by_cases h10:D.c (k+i)=10
         ·have e2:decide (32<=(D.c (k+i):Int))=false:=qqf (by omega);have e5:((D.c (k+i):Int) == 10)=true:=(by rw [beq_iff_eq];omega);have HN:=hnext 1 (lin_nl' h10 (by omega));clear hpl hc hnext h39 h9 h10 h3';go_wp2_with fail
          go_round
          case rel => exact ⟨i+1,by omega,by omega,by go_num,HN⟩
          case measure => simp [intOf];omega
         ·have e5:((D.c (k+i):Int) == 10)=false:=qqn (by omega);obtain ⟨asl,hvs,hrun⟩:=VW.sub HV.out hC1 i (i+1) i ((i:Int)+1) rfl (by omega) (by omega) (by omega);by_cases h13:D.c (k+i)=13
          ·have e2:decide (32<=(D.c (k+i):Int))=false:=qqf (by omega);have e6:((D.c (k+i):Int) == 13)=true:=(by rw [beq_iff_eq];omega);by_cases hnx:D.c (k+(i+1))=10
           ·have hin:=Doc.in_of (D:=D) (k:=k+(i+1)) (by omega);have b1:=HB.out (i+1) (by omega);have e7:((D.c (k+(i+1)):Int) == 10)=true:=(by rw [beq_iff_eq];omega);have HN:=hnext 2 (lin_crnl' ⟨h13,hnx⟩ (by omega));clear hpl hc hnext h39 h9 h10 h3' h13 hnx hvs hrun;go_wp2_with fail
            go_round
            case rel => exact ⟨i+2,by omega,by omega,by go_num,HN⟩
            case measure => simp [intOf];omega
           ·obtain rfl:R.bad=r:=(by rw [<- HRi.out];exact (lin_bad (by omega) h3' (by omega) h10 (fun h => hnx h.2) (sg_low hc (by omega))).symm);clear hnext hvs;rcases qqg (i+1) n with hl3 | hl3
            ·have b1:=HB.out (i+1) (by omega);have e7:((D.c (k+(i+1)):Int) == 10)=false:=qqn (by omega);clear hpl hc h39 h9 h10 h3' h13 hnx;go_wp2_with fail
             refine (newErr_c _ _ _ _ _ (by omega)).mono ?_;rintro e w1 ⟨⟨v,rfl,hE⟩,hk1⟩;go_wp2_with fail
             refine bodyPost_ret (results_tmp4 rfl _ _ _) rfl ?_;exact .inl ⟨⟨_,rfl,hE⟩,hk1⟩
            ·clear hpl hc h39 h9 h10 h3' h13 hnx;go_wp2_with fail
             refine (newErr_c _ _ _ _ _ (by omega)).mono ?_;rintro e w1 ⟨⟨v,rfl,hE⟩,hk1⟩;go_wp2_with fail
             refine bodyPost_ret (results_tmp4 rfl _ _ _) rfl ?_;exact .inl ⟨⟨_,rfl,hE⟩,hk1⟩
          ·have e6:((D.c (k+i):Int) == 13)=false:=qqn (by omega);have e8:decide ((D.c (k+i):Int)<128)=true:=qqt (by omega);obtain rfl:R.bad=r:=(by rw [<- HRi.out];exact (lin_bad (by omega) h3' (by omega) h10 (fun h => h13 h.1) (sg_low hc (by omega))).symm);clear hnext hvs;rcases qqg (D.c (k+i)) 32 with h | h
           ·have e2:decide (32<=(D.c (k+i):Int))=false:=qqf (by omega);clear h39 hpl h9 h10 h13 hc h3';go_wp2_with fail
            refine (newErr_c _ _ _ _ _ (by omega)).mono ?_;rintro e w1 ⟨⟨v,rfl,hE⟩,hk1⟩;go_wp2_with fail
            refine bodyPost_ret (results_tmp4 rfl _ _ _) rfl ?_;exact .inl ⟨⟨_,rfl,hE⟩,hk1⟩
           ·have e2:decide (32<=(D.c (k+i):Int))=true:=qqt (by omega);have e3:decide ((D.c (k+i):Int)<127)=false:=qqf (by omega);clear h39 hpl h9 h10 h13 hc h3';go_wp2_with fail
            refine (newErr_c _ _ _ _ _ (by omega)).mono ?_;rintro e w1 ⟨⟨v,rfl,hE⟩,hk1⟩;go_wp2_with fail
            refine bodyPost_ret (results_tmp4 rfl _ _ _) rfl ?_;exact .inl ⟨⟨_,rfl,hE⟩,hk1⟩
      ·have e2:decide (32<=(D.c (k+i):Int))=true:=qqt (by omega);have e3:decide ((D.c (k+i):Int)<127)=false:=qqf (by omega);have e4:((D.c (k+i):Int) == 9)=false:=qqn (by omega);have e5:((D.c (k+i):Int) == 10)=false:=qqn (by omega);have e6:((D.c (k+i):Int) == 13)=false:=qqn (by omega);have e7:decide ((D.c (k+i):Int)<128)=false:=qqf (by omega);have hu:=lin_utf D 39 (by omega) _ (k+i) (D.sub (k+cs) (i - cs)) rfl;have hug:=utf_ge D _ (k+i) rfl;cases hu2:(utf D (k+i)).2 with
       | true =>
        have hgt:=utf_gt (j:=k+i) (by omega) hc hu2;rw [hu2,if_pos rfl] at hu;have HU2:=qqh hu2;have hle:=hug.2 (by omega);obtain ⟨p,hp⟩:∃ p,(utf D (k+i)).1=p:=⟨_,rfl⟩;rw [hp] at hgt hle hu;have HN:=hnext (p - (k+i)) (by rw [hu,show k+i+(p - (k+i))=p by omega]);have HP:=qqh hp;clear hu hu2 hp hug hc hnext h39 h3';go_wp2_with fail
        refine (utf_c D A _ C k n c i _ (by exact HD.out) HV.out (by omega)).mono ?_;rintro e w1 ⟨rfl,rfl⟩;rw [HU2.out,HP.out];go_wp2_with fail
        go_round
        case rel => exact ⟨p - k,by omega,by omega,rfl,by have:=HN.out;rw [show i+(p - (k+i))=p - k by omega] at this;exact this⟩
        case measure => simp [intOf];omega
       | false =>
        rw [hu2,if_neg (by simp)] at hu;obtain rfl:R.bad=r:=hu.symm.trans HRi.out;have hlt9:=utf_false (j:=k+i) hu2;have HU2:=qqh hu2;have hge9:=hug.1;obtain ⟨p,hp⟩:∃ p,(utf D (k+i)).1=p:=⟨_,rfl⟩;rw [hp] at hlt9 hge9;have HP:=qqh hp;obtain ⟨asl2,hvs2,hrun2⟩:=VW.sub HV.out hC1 (p - k) (p - k+1) ((p - k:Nat):Int) (((p - k:Nat):Int)+1) rfl (by omega) (by omega) (by omega);obtain ⟨i2,hi2'⟩:∃ i2,p - k=i2:=⟨_,rfl⟩;rw [hi2'] at hrun2;have hi3:k+i2<D.n:=(by omega);have HI2:=qqh hi2';clear hu hu2 hp hug hc hvs2 hi2' hnext h39 h3';go_wp2_with fail
        refine (utf_c D A _ C k n c i _ (by exact HD.out) HV.out (by omega)).mono ?_;rintro e w1 ⟨rfl,rfl⟩;rw [HU2.out,HP.out,HI2.out];go_wp2_with fail
        refine (newErr_c _ _ _ _ _ (by omega)).mono ?_;rintro e w1 ⟨⟨v,rfl,hE⟩,hk1⟩;go_wp2_with fail
        refine bodyPost_ret (results_tmp4 rfl _ _ _) rfl ?_;exact .inl ⟨⟨_,rfl,hE⟩,hk1⟩
    ·obtain rfl:i=n:=(by omega);obtain ⟨af,hvf,hrunf⟩:=VW.from_ HV.out hC1 i i rfl (by omega);obtain rfl:R.bad=r:=(by rw [<- HRi.out];exact (lin_stop (by omega)).symm);clear hvf;go_wp2_with fail
     refine (newErr_c _ _ _ _ _ (by omega)).mono ?_;rintro e w1 ⟨⟨v,rfl,hE⟩,hk1⟩;go_wp2_with fail
     refine bodyPost_ret (results_tmp4 rfl _ _ _) rfl ?_;exact .inl ⟨⟨_,rfl,hE⟩,hk1⟩
 ·obtain rfl:n=3:=by omega
  obtain ⟨af,hvf,hrunf⟩:=VW.from_ HV.out hC1 3 3 rfl (by omega);obtain rfl:cs=3:=by omega
  obtain rfl:R.bad=r:=by rw [<- HR1.out];exact (lin_stop (by omega)).symm
  clear hvf HNL HCS;go_enter Tryz.func96,Tryz.ntmps96;go_wp2_with fail
  refine wp_loop_rounds 1 ?_;rw [rounds_succ];go_wp2_with fail
  refine (newErr_c _ _ _ _ _ (by omega)).mono ?_;rintro e w1 ⟨⟨v,rfl,hE⟩,hk1⟩;go_wp2_with fail
  refine bodyPost_ret (results_tmp4 rfl _ _ _) rfl ?_;exact .inl ⟨⟨_,rfl,hE⟩,hk1⟩
end Go.Proofs.YtpgmddjgcgpoeaaGreat
