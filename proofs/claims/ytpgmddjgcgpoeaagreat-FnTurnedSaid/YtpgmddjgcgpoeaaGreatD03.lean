/-
  A part of the proof.
-/
import Derived.Test.YtpgmddjgcgpoeaaGreatD01
import Derived.Test.YtpgmddjgcgpoeaaGreatD02
set_option linter.unusedVariables false
set_option linter.unusedSimpArgs false
set_option maxRecDepth 100000
set_option maxHeartbeats 8000000
namespace Go.Proofs.YtpgmddjgcgpoeaaGreat
open Go.RowKit
def utf (D:Doc) (j:Nat):Nat × Bool :=
 if _h:D.n<=j then (j,true) else if D.c j<128 then (j,true) else if _h2:sg D j=0 then (j,false) else utf D (j+sg D j)
termination_by D.n - j
theorem utf_end {D:Doc} {j:Nat} (h:D.n<=j):utf D j=(j,true):=by rw [utf,dif_pos h]
theorem utf_bad {D:Doc} {j:Nat} (h:j<D.n) (h1:128<=D.c j) (h2:sg D j=0):utf D j=(j,false):=by rw [utf,dif_neg (by omega),if_neg (by omega),dif_pos h2]
theorem utf_go {D:Doc} {j:Nat} (h:j<D.n) (h1:128<=D.c j) (h2:sg D j ≠ 0):utf D j=utf D (j+sg D j):=by
 have a:¬ D.n<=j:=by omega
 have b:¬ D.c j<128:=by omega
 generalize hx:utf D (j+sg D j)=x;rw [utf,dif_neg a,if_neg b,dif_neg h2,hx]
theorem utf_low {D:Doc} {j:Nat} (h1:D.c j<128):utf D j=(j,true):=by rw [utf,if_pos h1];split <;> rfl
theorem bits192_all:∀ x:Fin 256,(bits BinOp.and IntKind.u8 ((x.val:Nat):Int) 192 != 128)=!decide (128<=x.val/\x.val<=191):=by decide
theorem bits192_no {D:Doc} {i:Nat} (h:128<=D.c i/\D.c i<=191):(bits BinOp.and IntKind.u8 (D.c i:Int) 192 != 128)=false:=by
 have:=bits192_all ⟨D.c i,D.lt i⟩;simp only [this,qqt h,Bool.not_true]
theorem bits192_yes {D:Doc} {i:Nat} (h:¬ (128<=D.c i/\D.c i<=191)):(bits BinOp.and IntKind.u8 (D.c i:Int) 192 != 128)=true:=by
 have:=bits192_all ⟨D.c i,D.lt i⟩;simp only [this,qqf h,Bool.not_false]
theorem sg_at (D:Doc) (k j:Nat):sg D (k+j)=sgN (D.c (k+j)) (D.c (k+(j+1))) (D.c (k+(j+2))) (D.c (k+(j+3))):=rfl
theorem ret2_eq {a b:Nat} {k:IntKind} {v:Value} (h:a=b):Ending.returned (.tuple #[.int k (a:Int),v])=.returned (.tuple #[.int k (b:Int),v]):=by rw [h]
theorem utf_c (D:Doc) (A a:Option Addr) (C k n c i:Nat) (w:World) (hd:DocAt D A C w) (hv:VW D A C k a n c) (hi:i<=n) :
  Calls Tryz.prog 79 #[.slice a n c,.int .i64 i] w fun e w' => w'=w/\e=.returned (.tuple #[.int .i64 ((utf D (k+i)).1 - k:Nat),.bool (utf D (k+i)).2]):=by
 have hs:=D.small;have hC1:=hd.1;have hC2:=hd.2.1;have hln:=qql hv.len;have hln':=qql hv.len.symm;obtain ⟨r,hr⟩:∃ r,utf D (k+i)=r:=⟨_,rfl⟩;rw [hr];have HR:=qqh hr;have HD:=qqh hd;have HV:=qqh hv;clear hr hd hv;rcases qqg k D.n with hlt | hge
 ·obtain ⟨bd,q,rfl,hb⟩:=HV.out.bytes HD.out hlt;have HB:=qqh hb;clear hb;go_enter Tryz.func79,Tryz.ntmps79;go_wp2_with fail
  go_loop [1] (fun b => ∃ (j:Nat),j<=n/\b=.int .i64 j/\Hid (utf D (k+j)=r)) (fun b => n - (intOf b).toNat)
  case atStart => exact ⟨i,hi,rfl,HR⟩
  case round =>
   obtain ⟨j,hj,rfl,HR⟩:=hrel;rcases qqg j n with hlt | hge
   ·have b0:=HB.out j (by omega);rcases qqg (D.c (k+j)) 128 with hc | hc
    ·have e1:decide ((D.c (k+j):Int)<128)=true:=qqt (by omega);have hu:=HR.out;rw [utf_low hc] at hu;obtain rfl:=hu;clear hc;go_wp2_with fail
     go_ret2;exact ⟨rfl,ret2_eq (by omega)⟩
    rcases qqg (D.c (k+j)) 194 with hc2 | hc2
    ·have hu:=HR.out;rw [utf_bad (by omega) hc (by unfold sg sgN;rw [if_neg (by omega),if_pos hc2])] at hu;obtain rfl:=hu;have e1:decide ((D.c (k+j):Int)<128)=false:=qqf (by omega);have e2:decide ((D.c (k+j):Int)<194)=true:=qqt (by omega);clear hc hc2;go_wp2_with fail
     go_ret2;exact ⟨rfl,ret2_eq (by omega)⟩
    have e1:decide ((D.c (k+j):Int)<128)=false:=qqf (by omega);have e2:decide ((D.c (k+j):Int)<194)=false:=qqf (by omega);rcases qqg (D.c (k+j)) 224 with hc3 | hc3
    ·have e3:decide ((D.c (k+j):Int)<224)=true:=qqt (by omega);rcases (qqg (k+(j+1)) D.n).symm with h1 | h1
     ·have z1:D.c (k+(j+1))<=0:=(by rw [D.out _ h1];omega);have hz:sg D (k+j)=0:=by
       rw [sg_at];unfold sgN
       (repeat' split) <;> omega
      have hu:=HR.out;rw [utf_bad (by omega) hc hz] at hu;obtain rfl:=hu;clear hz;go_wp2_with fail
      go_ret2;exact ⟨rfl,ret2_eq (by omega)⟩
     have b1:=HB.out (j+1) h1;by_cases c1:128<=D.c (k+(j+1))/\D.c (k+(j+1))<=191
     ·have d1:=bits192_no c1;have hz:sg D (k+j)=2:=by
       rw [sg_at];unfold sgN
       (repeat' split) <;> omega
      have HU:Hid (utf D (k+(j+2))=r):=by
       show _=_;rw [<- HR.out,utf_go (D:=D) (j:=k+j) (by omega) (by omega) (by omega),hz];rfl
      clear hz;go_wp2_with fail
      go_round
      case rel => exact ⟨j+2,by omega,by go_num,HU⟩
      case measure => simp [intOf];omega
     ·have d1:=bits192_yes c1;have hz:sg D (k+j)=0:=by
       rw [sg_at];unfold sgN
       (repeat' split) <;> omega
      have hu:=HR.out;rw [utf_bad (by omega) hc hz] at hu;obtain rfl:=hu;clear hz;go_wp2_with fail
      go_ret2;exact ⟨rfl,ret2_eq (by omega)⟩
    have e3:decide ((D.c (k+j):Int)<224)=false:=qqf (by omega);rcases qqg (D.c (k+j)) 240 with hc4 | hc4
    ·have e4:decide ((D.c (k+j):Int)<240)=true:=qqt (by omega);rcases (qqg (k+(j+2)) D.n).symm with h2 | h2
     ·have z2:D.c (k+(j+2))<=0:=(by rw [D.out _ h2];omega);have hz:sg D (k+j)=0:=by
       rw [sg_at];unfold sgN
       (repeat' split) <;> omega
      have hu:=HR.out;rw [utf_bad (by omega) hc hz] at hu;obtain rfl:=hu;clear hz;go_wp2_with fail
      go_ret2;exact ⟨rfl,ret2_eq (by omega)⟩
     have b2:=HB.out (j+2) h2;have b1:=HB.out (j+1) (by omega);by_cases c2:128<=D.c (k+(j+2))/\D.c (k+(j+2))<=191
     ·have d2:=bits192_no c2;by_cases hv0:D.c (k+j)=224
      ·have f0:((D.c (k+j):Int) == 224)=true:=(by rw [beq_iff_eq];omega);rcases qqg (D.c (k+(j+1))) 160 with l1 | l1
       ·have p1:decide ((D.c (k+(j+1)):Int)<160)=true:=qqt (by omega);have hz:sg D (k+j)=0:=by
         rw [sg_at];unfold sgN
         (repeat' split) <;> omega
        have hu:=HR.out;rw [utf_bad (by omega) hc hz] at hu;obtain rfl:=hu;clear hz;go_wp2_with fail
        go_ret2;exact ⟨rfl,ret2_eq (by omega)⟩
       have p1:decide ((D.c (k+(j+1)):Int)<160)=false:=qqf (by omega);rcases qqg 191 (D.c (k+(j+1))) with l2 | l2
       ·have p2:decide (191<(D.c (k+(j+1)):Int))=true:=qqt (by omega);have hz:sg D (k+j)=0:=by
         rw [sg_at];unfold sgN
         (repeat' split) <;> omega
        have hu:=HR.out;rw [utf_bad (by omega) hc hz] at hu;obtain rfl:=hu;clear hz;go_wp2_with fail
        go_ret2;exact ⟨rfl,ret2_eq (by omega)⟩
       have p2:decide (191<(D.c (k+(j+1)):Int))=false:=qqf (by omega);have hz:sg D (k+j)=3:=by
        rw [sg_at];unfold sgN
        (repeat' split) <;> omega
       have HU:Hid (utf D (k+(j+3))=r):=by
        show _=_;rw [<- HR.out,utf_go (D:=D) (j:=k+j) (by omega) (by omega) (by omega),hz];rfl
       clear hz;go_wp2_with fail
       go_round
       case rel => exact ⟨j+3,by omega,by go_num,HU⟩
       case measure => simp [intOf];omega
      have f0:((D.c (k+j):Int) == 224)=false:=qqn (by omega);by_cases hv1:D.c (k+j)=237
      ·have f1:((D.c (k+j):Int) == 237)=true:=(by rw [beq_iff_eq];omega);rcases qqg (D.c (k+(j+1))) 128 with l1 | l1
       ·have p1:decide ((D.c (k+(j+1)):Int)<128)=true:=qqt (by omega);have hz:sg D (k+j)=0:=by
         rw [sg_at];unfold sgN
         (repeat' split) <;> omega
        have hu:=HR.out;rw [utf_bad (by omega) hc hz] at hu;obtain rfl:=hu;clear hz;go_wp2_with fail
        go_ret2;exact ⟨rfl,ret2_eq (by omega)⟩
       have p1:decide ((D.c (k+(j+1)):Int)<128)=false:=qqf (by omega);rcases qqg 159 (D.c (k+(j+1))) with l2 | l2
       ·have p2:decide (159<(D.c (k+(j+1)):Int))=true:=qqt (by omega);have hz:sg D (k+j)=0:=by
         rw [sg_at];unfold sgN
         (repeat' split) <;> omega
        have hu:=HR.out;rw [utf_bad (by omega) hc hz] at hu;obtain rfl:=hu;clear hz;go_wp2_with fail
        go_ret2;exact ⟨rfl,ret2_eq (by omega)⟩
       have p2:decide (159<(D.c (k+(j+1)):Int))=false:=qqf (by omega);have hz:sg D (k+j)=3:=by
        rw [sg_at];unfold sgN
        (repeat' split) <;> omega
       have HU:Hid (utf D (k+(j+3))=r):=by
        show _=_;rw [<- HR.out,utf_go (D:=D) (j:=k+j) (by omega) (by omega) (by omega),hz];rfl
       clear hz;go_wp2_with fail
       go_round
       case rel => exact ⟨j+3,by omega,by go_num,HU⟩
       case measure => simp [intOf];omega
      have f1:((D.c (k+j):Int) == 237)=false:=qqn (by omega);by_cases c1:128<=D.c (k+(j+1))/\D.c (k+(j+1))<=191
      ·have d1:=bits192_no c1;have hz:sg D (k+j)=3:=by
        rw [sg_at];unfold sgN
        (repeat' split) <;> omega
       have HU:Hid (utf D (k+(j+3))=r):=by
        show _=_;rw [<- HR.out,utf_go (D:=D) (j:=k+j) (by omega) (by omega) (by omega),hz];rfl
       clear hz;go_wp2_with fail
       go_round
       case rel => exact ⟨j+3,by omega,by go_num,HU⟩
       case measure => simp [intOf];omega
      ·have d1:=bits192_yes c1;have hz:sg D (k+j)=0:=by
        rw [sg_at];unfold sgN
        (repeat' split) <;> omega
       have hu:=HR.out;rw [utf_bad (by omega) hc hz] at hu;obtain rfl:=hu;clear hz;go_wp2_with fail
       go_ret2;exact ⟨rfl,ret2_eq (by omega)⟩
     ·have d2:=bits192_yes c2;have hz:sg D (k+j)=0:=by
       rw [sg_at];unfold sgN
       (repeat' split) <;> omega
      have hu:=HR.out;rw [utf_bad (by omega) hc hz] at hu;obtain rfl:=hu;clear hz;go_wp2_with fail
      go_ret2;exact ⟨rfl,ret2_eq (by omega)⟩
    have e4:decide ((D.c (k+j):Int)<240)=false:=qqf (by omega);rcases qqg (D.c (k+j)) 245 with hc5 | hc5
    ·have e5:decide ((D.c (k+j):Int)<245)=true:=qqt (by omega);rcases (qqg (k+(j+3)) D.n).symm with h3 | h3
     ·have z3:D.c (k+(j+3))<=0:=(by rw [D.out _ h3];omega);have hz:sg D (k+j)=0:=by
       rw [sg_at];unfold sgN
       (repeat' split) <;> omega
      have hu:=HR.out;rw [utf_bad (by omega) hc hz] at hu;obtain rfl:=hu;clear hz;go_wp2_with fail
      go_ret2;exact ⟨rfl,ret2_eq (by omega)⟩
     have b3:=HB.out (j+3) h3;have b1:=HB.out (j+1) (by omega);have b2:=HB.out (j+2) (by omega);by_cases c2:128<=D.c (k+(j+2))/\D.c (k+(j+2))<=191
     ·have d2:=bits192_no c2;by_cases c3:128<=D.c (k+(j+3))/\D.c (k+(j+3))<=191
      ·have d3:=bits192_no c3;by_cases hv0:D.c (k+j)=240
       ·have f0:((D.c (k+j):Int) == 240)=true:=(by rw [beq_iff_eq];omega);rcases qqg (D.c (k+(j+1))) 144 with l1 | l1
        ·have p1:decide ((D.c (k+(j+1)):Int)<144)=true:=qqt (by omega);have hz:sg D (k+j)=0:=by
          rw [sg_at];unfold sgN
          (repeat' split) <;> omega
         have hu:=HR.out;rw [utf_bad (by omega) hc hz] at hu;obtain rfl:=hu;clear hz;go_wp2_with fail
         go_ret2;exact ⟨rfl,ret2_eq (by omega)⟩
        have p1:decide ((D.c (k+(j+1)):Int)<144)=false:=qqf (by omega);rcases qqg 191 (D.c (k+(j+1))) with l2 | l2
        ·have p2:decide (191<(D.c (k+(j+1)):Int))=true:=qqt (by omega);have hz:sg D (k+j)=0:=by
          rw [sg_at];unfold sgN
          (repeat' split) <;> omega
         have hu:=HR.out;rw [utf_bad (by omega) hc hz] at hu;obtain rfl:=hu;clear hz;go_wp2_with fail
         go_ret2;exact ⟨rfl,ret2_eq (by omega)⟩
        have p2:decide (191<(D.c (k+(j+1)):Int))=false:=qqf (by omega);have hz:sg D (k+j)=4:=by
         rw [sg_at];unfold sgN
         (repeat' split) <;> omega
        have HU:Hid (utf D (k+(j+4))=r):=by
         show _=_;rw [<- HR.out,utf_go (D:=D) (j:=k+j) (by omega) (by omega) (by omega),hz];rfl
        clear hz;go_wp2_with fail
        go_round
        case rel => exact ⟨j+4,by omega,by go_num,HU⟩
        case measure => simp [intOf];omega
       have f0:((D.c (k+j):Int) == 240)=false:=qqn (by omega);by_cases hv1:D.c (k+j)=244
       ·have f1:((D.c (k+j):Int) == 244)=true:=(by rw [beq_iff_eq];omega);rcases qqg (D.c (k+(j+1))) 128 with l1 | l1
        ·have p1:decide ((D.c (k+(j+1)):Int)<128)=true:=qqt (by omega);have hz:sg D (k+j)=0:=by
          rw [sg_at];unfold sgN
          (repeat' split) <;> omega
         have hu:=HR.out;rw [utf_bad (by omega) hc hz] at hu;obtain rfl:=hu;clear hz;go_wp2_with fail
         go_ret2;exact ⟨rfl,ret2_eq (by omega)⟩
        have p1:decide ((D.c (k+(j+1)):Int)<128)=false:=qqf (by omega);rcases qqg 143 (D.c (k+(j+1))) with l2 | l2
        ·have p2:decide (143<(D.c (k+(j+1)):Int))=true:=qqt (by omega);have hz:sg D (k+j)=0:=by
          rw [sg_at];unfold sgN
          (repeat' split) <;> omega
         have hu:=HR.out;rw [utf_bad (by omega) hc hz] at hu;obtain rfl:=hu;clear hz;go_wp2_with fail
         go_ret2;exact ⟨rfl,ret2_eq (by omega)⟩
        have p2:decide (143<(D.c (k+(j+1)):Int))=false:=qqf (by omega);have hz:sg D (k+j)=4:=by
         rw [sg_at];unfold sgN
         (repeat' split) <;> omega
        have HU:Hid (utf D (k+(j+4))=r):=by
         show _=_;rw [<- HR.out,utf_go (D:=D) (j:=k+j) (by omega) (by omega) (by omega),hz];rfl
        clear hz;go_wp2_with fail
        go_round
        case rel => exact ⟨j+4,by omega,by go_num,HU⟩
        case measure => simp [intOf];omega
       have f1:((D.c (k+j):Int) == 244)=false:=qqn (by omega);by_cases c1:128<=D.c (k+(j+1))/\D.c (k+(j+1))<=191
       ·have d1:=bits192_no c1;have hz:sg D (k+j)=4:=by
         rw [sg_at];unfold sgN
         (repeat' split) <;> omega
        have HU:Hid (utf D (k+(j+4))=r):=by
         show _=_;rw [<- HR.out,utf_go (D:=D) (j:=k+j) (by omega) (by omega) (by omega),hz];rfl
        clear hz;go_wp2_with fail
        go_round
        case rel => exact ⟨j+4,by omega,by go_num,HU⟩
        case measure => simp [intOf];omega
       ·have d1:=bits192_yes c1;have hz:sg D (k+j)=0:=by
         rw [sg_at];unfold sgN
         (repeat' split) <;> omega
        have hu:=HR.out;rw [utf_bad (by omega) hc hz] at hu;obtain rfl:=hu;clear hz;go_wp2_with fail
        go_ret2;exact ⟨rfl,ret2_eq (by omega)⟩
      ·have d3:=bits192_yes c3;have hz:sg D (k+j)=0:=by
        rw [sg_at];unfold sgN
        (repeat' split) <;> omega
       have hu:=HR.out;rw [utf_bad (by omega) hc hz] at hu;obtain rfl:=hu;clear hz;go_wp2_with fail
       go_ret2;exact ⟨rfl,ret2_eq (by omega)⟩
     ·have d2:=bits192_yes c2;have hz:sg D (k+j)=0:=by
       rw [sg_at];unfold sgN
       (repeat' split) <;> omega
      have hu:=HR.out;rw [utf_bad (by omega) hc hz] at hu;obtain rfl:=hu;clear hz;go_wp2_with fail
      go_ret2;exact ⟨rfl,ret2_eq (by omega)⟩
    have e5:decide ((D.c (k+j):Int)<245)=false:=qqf (by omega);have hu:=HR.out;rw [utf_bad (by omega) hc (by unfold sg sgN;rw [if_neg (by omega),if_neg (by omega),if_neg (by omega),if_neg (by omega),if_neg (by omega)])] at hu;obtain rfl:=hu;go_wp2_with fail
    go_ret2;exact ⟨rfl,ret2_eq (by omega)⟩
   ·have hu:=HR.out;rw [utf_end (by omega)] at hu;obtain rfl:=hu;go_wp2_with fail
    go_ret2;exact ⟨rfl,ret2_eq (by omega)⟩
 ·have hu:=HR.out;rw [utf_end (by omega)] at hu;obtain rfl:=hu;obtain rfl:i=0:=by omega
  obtain rfl:n=0:=by omega
  go_enter Tryz.func79,Tryz.ntmps79;go_wp2_with fail
  refine wp_loop_rounds 1 ?_;rw [rounds_succ];go_wp2_with fail
  go_ret2;exact ⟨rfl,ret2_eq (by omega)⟩
end Go.Proofs.YtpgmddjgcgpoeaaGreat
