/-
  A part of the proof.
-/
import Derived.Test.YtpgmddjgcgpoeaaGreatD19
import Derived.Deep.DeepCutAuto
set_option linter.unusedVariables false
set_option linter.unusedSimpArgs false
set_option maxRecDepth 100000
set_option maxHeartbeats 8000000
namespace Go.Proofs.YtpgmddjgcgpoeaaGreat
open Go.RowKit
theorem rawR_open {D:Doc} {k:Nat} {x:Nat × Nat} (h:x=(0,0)):rawR D k x=.opn:=by subst h;rfl
theorem rawR_good {D:Doc} {k a m:Nat} {x:Nat × Nat} (h:x=(a,m)) (hm:m ≠ 0):rawR D k x=.good (a,D.sub k m) (k+m):=by subst h;unfold rawR;rw [if_neg hm]
theorem int_nat {x:Int} {n:Nat} (h:x=(n:Int)):x.toNat=n:=by omega
theorem date_c (D:Doc) (bp:Nat) (A:Option Addr) (C:Nat) (at_ st:Nat) (w:World) (hp:PS D bp A C w at_ st) (hat:at_<=1073741900) (hA:∀ a,A=some a->a.block<w.heap.size) (hy:0<=twoRun D at_ 0 4) :
  Calls Tryz.prog 73 #[.pointer (some ⟨bp,0,none⟩)] w fun e w' => (∃ v,e=.returned v/\LeafOk (dat D at_) v)/\PS D bp A C w' ((dat D at_).pos D) ((dat D at_).st st)/\Kp (Only bp) w w':=by
 have hs:=D.small;have hlt:=hp.blk.lt;have hN:=qqh (NS.start hp hA w.heap.size rfl [.int .i64 0,.string ⟨#[]⟩,.slice none 0 0,.slice none 0 0] 43);clear hp;have hyl:=twoRun_lt D 4 at_ 0;have hd8:=twoRun_in D 2 (at_+8) 0;have hck:=clkN_in D (at_+11);have hD:Hid (dat D at_=rawR D at_ (datN D at_)):=rfl;obtain ⟨tY,ht⟩:∃ t,twoRun D at_ 0 4=t:=⟨_,rfl⟩;rw [ht] at hy hyl;have HY:=qqh ht;clear ht;obtain ⟨tM,ht⟩:∃ t,twoRun D (at_+5) 0 2=t:=⟨_,rfl⟩;have HM:=qqh ht;clear ht;obtain ⟨tD,ht⟩:∃ t,twoRun D (at_+8) 0 2=t:=⟨_,rfl⟩;rw [ht] at hd8;have HD:=qqh ht;clear ht;obtain ⟨tX,ht⟩:∃ t,twoRun D (at_+11) 0 2=t:=⟨_,rfl⟩;have HX:=qqh ht;clear ht;obtain ⟨tK,ht⟩:∃ t,clkN D (at_+11)=t:=⟨_,rfl⟩;rw [ht] at hck;have HK:=qqh ht;clear ht;obtain ⟨tB,ht⟩:∃ t,clkB D (at_+11)=t:=⟨_,rfl⟩;have HB:=qqh ht;clear ht;have hz:=Doc.in_of (D:=D) (k:=at_+11+tK);have hm4:=twoRun_in D 2 (at_+11+tK+4) 0;obtain ⟨tH,ht⟩:∃ t,twoRun D (at_+11+tK+1) 0 2=t:=⟨_,rfl⟩;have HH:=qqh ht;clear ht;obtain ⟨tN,ht⟩:∃ t,twoRun D (at_+11+tK+4) 0 2=t:=⟨_,rfl⟩;rw [ht] at hm4;have HN:=qqh ht;clear ht;obtain ⟨tMo,ht⟩:∃ t,monthP tY tM=t:=⟨_,rfl⟩;have HMo:=qqh ht;clear ht;go_enter Tryz.func73,Tryz.ntmps73;go_wp2_with fail
 refine (two_p D bp A C at_ st (at_) 4 _ _ _ (by exact hN.out.ps) (by omega) (by omega) (by omega) rfl (by omega) (by omega)).mono ?_;rintro e w1 ⟨rfl,nqY,rfl⟩;rw [HY.out];go_wp2_with fail
 refine (two_p D bp A C at_ st (at_+5) 2 _ _ _ (by exact hN.out.ps.drewN _) (by omega) (by omega) (by omega) rfl (by omega) (by omega)).mono ?_;rintro e w1 ⟨rfl,nqM,rfl⟩;rw [HM.out];go_wp2_with fail
 refine (two_p D bp A C at_ st (at_+8) 2 _ _ _ (by exact hN.out.ps.drewN _) (by omega) (by omega) (by omega) rfl (by omega) (by omega)).mono ?_;rintro e w1 ⟨rfl,nqD,rfl⟩;rw [HD.out];go_upto_region 2 with fail;go_cut [29] (fun c wx => c=.bool (decide (tM<0\/D.c (at_+7) ≠ 45\/tD<0))/\∃ n,wx=((w.alloc (.cells #[.int .i64 0,.string ⟨#[]⟩,.slice none 0 0,.slice none 0 0] 43)).drewN n))
 case first =>
  go_wp2_with (first
   | (go_at_call 20;refine (peek_p D bp A C at_ st (at_+7) _ _ (by exact hN.out.ps.drewN _) (by omega) (by omega) (by omega) (by omega)).mono ?_;rintro e w1 ⟨rfl,nq,rfl⟩))
  all_goals (go_meet;refine ⟨congrArg Value.bool ?_,_,rfl⟩;(first | (symm;rw [decide_eq_true_iff];(try simp only [beq_iff_eq,beq_eq_false_iff_ne,bne_iff_ne,bne_eq_false_iff_eq] at *);omega) | (symm;rw [decide_eq_false_iff_not];(try simp only [beq_iff_eq,beq_eq_false_iff_ne,bne_iff_ne,bne_eq_false_iff_eq] at *);omega) | (rw [Bool.eq_iff_iff];simp <;> omega)))
 case rest =>
  obtain ⟨hc,nq,rfl⟩:=hcut;by_cases hP2:tM<0\/D.c (at_+7) ≠ 45\/tD<0
  ·rw [qqt hP2] at hc;subst hc;have hf:Hid (dat D at_=.opn):=by
    show _=_;rw [hD.out,rawR_open];unfold datN;simp only [HY.out,HM.out,HD.out,HX.out,HK.out,HB.out,HH.out,HN.out,HMo.out];rw [if_pos hP2]
   go_wp2_with fail
   refine (open_c D bp A C at_ st _ (by exact hN.out.ps.drewN _)).mono ?_;rintro e w1 ⟨rfl,hp1,hk1⟩;have hM:=qqh (NS.call (hN.out.drewN _) hp1 hk1);have b0:=hM.out.blk.cell 0 rfl;have b1:=hM.out.blk.cell 1 rfl;have b2:=hM.out.blk.cell 2 rfl;have b3:=hM.out.blk.cell 3 rfl;have g0:=hM.out.blk.free 0;have g1:=hM.out.blk.free 1;have g2:=hM.out.blk.free 2;have g3:=hM.out.blk.free 3;clear hp1 hk1;go_wp2_with fail
   have h:=NS.put (NS.put (NS.put (NS.put hM.out 0 (.int .i64 0)) 1 (.string ⟨#[]⟩)) 2 (.slice none 0 0)) 3 (.slice none 0 0);refine bodyPost_ret (v:=.agg #[.int .i64 0,.string ⟨#[]⟩,.slice none 0 0,.slice none 0 0]) (by simp [results,Tryz.results73,go_sem,b0,b1,b2,b3]) rfl ⟨⟨_,rfl,?_⟩,?_,?_⟩
   ·rw [hf.out];exact ⟨0,[],rfl⟩
   ·rw [hf.out];exact h.ps
   ·exact h.kp
  ·rw [qqf hP2] at hc;subst hc;go_upto_region 5 with fail;go_cut [53] (fun c wx => c=.bool (decide (tM<1\/12<tM\/tD<1\/tMo<tD\/tY=0))/\∃ n,wx=((w.alloc (.cells #[.int .i64 0,.string ⟨#[]⟩,.slice none 0 0,.slice none 0 0] 43)).drewN n))
   case first =>
    go_wp2_with (first
     | (go_at_call 87;refine (month_c tY tM _ (by omega) (by omega)).mono ?_;rintro e w1 ⟨rfl,rfl⟩;rw [HMo.out]))
    all_goals (go_meet;refine ⟨congrArg Value.bool ?_,_,rfl⟩;(first | (symm;rw [decide_eq_true_iff];(try simp only [beq_iff_eq,beq_eq_false_iff_ne,bne_iff_ne,bne_eq_false_iff_eq] at *);omega) | (symm;rw [decide_eq_false_iff_not];(try simp only [beq_iff_eq,beq_eq_false_iff_ne,bne_iff_ne,bne_eq_false_iff_eq] at *);omega) | (rw [Bool.eq_iff_iff];simp <;> omega)))
   case rest =>
    obtain ⟨hc,nq,rfl⟩:=hcut;by_cases hP5:tM<1\/12<tM\/tD<1\/tMo<tD\/tY=0
    ·rw [qqt hP5] at hc;subst hc;have hf:Hid (dat D at_=.opn):=by
      show _=_;rw [hD.out,rawR_open];unfold datN;simp only [HY.out,HM.out,HD.out,HX.out,HK.out,HB.out,HH.out,HN.out,HMo.out];rw [if_neg hP2,if_pos hP5]
     go_wp2_with fail
     refine (open_c D bp A C at_ st _ (by exact hN.out.ps.drewN _)).mono ?_;rintro e w1 ⟨rfl,hp1,hk1⟩;have hM:=qqh (NS.call (hN.out.drewN _) hp1 hk1);have b0:=hM.out.blk.cell 0 rfl;have b1:=hM.out.blk.cell 1 rfl;have b2:=hM.out.blk.cell 2 rfl;have b3:=hM.out.blk.cell 3 rfl;have g0:=hM.out.blk.free 0;have g1:=hM.out.blk.free 1;have g2:=hM.out.blk.free 2;have g3:=hM.out.blk.free 3;clear hp1 hk1;go_wp2_with fail
     have h:=NS.put (NS.put (NS.put (NS.put hM.out 0 (.int .i64 0)) 1 (.string ⟨#[]⟩)) 2 (.slice none 0 0)) 3 (.slice none 0 0);refine bodyPost_ret (v:=.agg #[.int .i64 0,.string ⟨#[]⟩,.slice none 0 0,.slice none 0 0]) (by simp [results,Tryz.results73,go_sem,b0,b1,b2,b3]) rfl ⟨⟨_,rfl,?_⟩,?_,?_⟩
     ·rw [hf.out];exact ⟨0,[],rfl⟩
     ·rw [hf.out];exact h.ps
     ·exact h.kp
    ·rw [qqf hP5] at hc;subst hc;go_wp2_with fail
     refine (peek_p D bp A C at_ st (at_+10) _ _ (by exact hN.out.ps.drewN _) (by omega) (by omega) (by omega) (by omega)).mono ?_;rintro e w1 ⟨rfl,nqt,rfl⟩;go_upto_region 9 with fail;go_cut [73,6] (fun c b wx => c=.bool (decide (D.c (at_+10) ≠ 84/\D.c (at_+10) ≠ 116/\(D.c (at_+10) ≠ 32\/tX<0)))/\b=.int .u8 (D.c (at_+10))/\∃ n,wx=((w.alloc (.cells #[.int .i64 0,.string ⟨#[]⟩,.slice none 0 0,.slice none 0 0] 43)).drewN n))
     case first =>
      go_wp2_with (first
       | (go_at_call 71;refine (two_p D bp A C at_ st (at_+11) 2 _ _ _ (by exact hN.out.ps.drewN _) (by omega) (by omega) (by omega) rfl (by omega) (by omega)).mono ?_;rintro e w1 ⟨rfl,nq,rfl⟩;rw [HX.out]))
      all_goals (go_meet;refine ⟨congrArg Value.bool ?_,congrArg (Value.int .u8) (by first | rfl | omega),_,rfl⟩;(first | (symm;rw [decide_eq_true_iff];(try simp only [beq_iff_eq,beq_eq_false_iff_ne,bne_iff_ne,bne_eq_false_iff_eq] at *);omega) | (symm;rw [decide_eq_false_iff_not];(try simp only [beq_iff_eq,beq_eq_false_iff_ne,bne_iff_ne,bne_eq_false_iff_eq] at *);omega) | (rw [Bool.eq_iff_iff];simp <;> omega)))
     case rest =>
      obtain ⟨hc,rfl,nq,rfl⟩:=hcut;by_cases hP9:D.c (at_+10) ≠ 84/\D.c (at_+10) ≠ 116/\(D.c (at_+10) ≠ 32\/tX<0)
      ·rw [qqt hP9] at hc;subst hc;have hn0:10 ≠ 0:=(by omega);have hf:Hid (dat D at_=.good (6,D.sub at_ (10)) (at_+(10))):=by
        show _=_;rw [hD.out];refine rawR_good ?_ hn0;unfold datN;simp only [HY.out,HM.out,HD.out,HX.out,HK.out,HB.out,HH.out,HN.out,HMo.out];rw [if_neg hP2,if_neg hP5,if_pos hP9]
       have hin:at_+(10)<=D.n:=(by omega);go_wp2_with fail
       refine (raw_c D bp A C at_ st _ _ _ (by exact hN.out.ps.drewN _) (by omega) (by omega) (by omega) (by omega)).mono ?_;rintro e w1 ⟨rfl,hp1,hk1⟩;rw [int_nat (n:=10) (by omega)] at hp1 ⊢;have hM:=qqh (NS.call (hN.out.drewN _) hp1 hk1);obtain ⟨S,hS⟩:∃ S:ByteArray,(⟨(D.sub at_ (10)).toArray⟩:ByteArray)=S:=⟨_,rfl⟩;rw [hS];have HS:=qqh hS;have b0:=hM.out.blk.cell 0 rfl;have b1:=hM.out.blk.cell 1 rfl;have b2:=hM.out.blk.cell 2 rfl;have b3:=hM.out.blk.cell 3 rfl;have g0:=hM.out.blk.free 0;have g1:=hM.out.blk.free 1;have g2:=hM.out.blk.free 2;have g3:=hM.out.blk.free 3;clear hp1 hk1 hS hn0;go_wp2_with fail
       have h:=NS.put (NS.put (NS.put (NS.put hM.out 0 (.int .i64 6)) 1 (.string S)) 2 (.slice none 0 0)) 3 (.slice none 0 0);refine bodyPost_ret (v:=.agg #[.int .i64 6,.string S,.slice none 0 0,.slice none 0 0]) (by simp [results,Tryz.results73,go_sem,b0,b1,b2,b3]) rfl ⟨⟨_,rfl,?_⟩,?_,?_⟩
       ·rw [hf.out];show _=leafV _ _;unfold leafV;rw [HS.out];rfl
       ·rw [hf.out];exact h.ps
       ·exact h.kp
      ·rw [qqf hP9] at hc;subst hc;by_cases hP11:D.c (at_+10)=116
       ·have e11:((D.c (at_+10):Int) == 116)=true:=(by rw [beq_iff_eq];omega);have hf:Hid (dat D at_=.opn):=by
         show _=_;rw [hD.out,rawR_open];unfold datN;simp only [HY.out,HM.out,HD.out,HX.out,HK.out,HB.out,HH.out,HN.out,HMo.out];rw [if_neg hP2,if_neg hP5,if_neg hP9,if_pos hP11]
        go_wp2_with fail
        refine (open_c D bp A C at_ st _ (by exact hN.out.ps.drewN _)).mono ?_;rintro e w1 ⟨rfl,hp1,hk1⟩;have hM:=qqh (NS.call (hN.out.drewN _) hp1 hk1);have b0:=hM.out.blk.cell 0 rfl;have b1:=hM.out.blk.cell 1 rfl;have b2:=hM.out.blk.cell 2 rfl;have b3:=hM.out.blk.cell 3 rfl;have g0:=hM.out.blk.free 0;have g1:=hM.out.blk.free 1;have g2:=hM.out.blk.free 2;have g3:=hM.out.blk.free 3;clear hp1 hk1;go_wp2_with fail
        have h:=NS.put (NS.put (NS.put (NS.put hM.out 0 (.int .i64 0)) 1 (.string ⟨#[]⟩)) 2 (.slice none 0 0)) 3 (.slice none 0 0);refine bodyPost_ret (v:=.agg #[.int .i64 0,.string ⟨#[]⟩,.slice none 0 0,.slice none 0 0]) (by simp [results,Tryz.results73,go_sem,b0,b1,b2,b3]) rfl ⟨⟨_,rfl,?_⟩,?_,?_⟩
        ·rw [hf.out];exact ⟨0,[],rfl⟩
        ·rw [hf.out];exact h.ps
        ·exact h.kp
       ·have e11:((D.c (at_+10):Int) == 116)=false:=qqn (by omega);go_wp2_with fail
        refine (clock_c D bp A C at_ st (at_+11) _ _ (by exact hN.out.ps.drewN _) (by omega) (by omega) (by omega) (by omega)).mono ?_;rintro e w1 ⟨rfl,nqk,rfl⟩;rw [HK.out,HB.out];by_cases hP15:tK=0
        ·have e15:((tK:Int) == 0)=true:=(by rw [beq_iff_eq];omega);have hf:Hid (dat D at_=.opn):=by
          show _=_;rw [hD.out,rawR_open];unfold datN;simp only [HY.out,HM.out,HD.out,HX.out,HK.out,HB.out,HH.out,HN.out,HMo.out];rw [if_neg hP2,if_neg hP5,if_neg hP9,if_neg hP11,if_pos hP15]
         go_wp2_with fail
         refine (open_c D bp A C at_ st _ (by exact hN.out.ps.drewN _)).mono ?_;rintro e w1 ⟨rfl,hp1,hk1⟩;have hM:=qqh (NS.call (hN.out.drewN _) hp1 hk1);have b0:=hM.out.blk.cell 0 rfl;have b1:=hM.out.blk.cell 1 rfl;have b2:=hM.out.blk.cell 2 rfl;have b3:=hM.out.blk.cell 3 rfl;have g0:=hM.out.blk.free 0;have g1:=hM.out.blk.free 1;have g2:=hM.out.blk.free 2;have g3:=hM.out.blk.free 3;clear hp1 hk1;go_wp2_with fail
         have h:=NS.put (NS.put (NS.put (NS.put hM.out 0 (.int .i64 0)) 1 (.string ⟨#[]⟩)) 2 (.slice none 0 0)) 3 (.slice none 0 0);refine bodyPost_ret (v:=.agg #[.int .i64 0,.string ⟨#[]⟩,.slice none 0 0,.slice none 0 0]) (by simp [results,Tryz.results73,go_sem,b0,b1,b2,b3]) rfl ⟨⟨_,rfl,?_⟩,?_,?_⟩
         ·rw [hf.out];exact ⟨0,[],rfl⟩
         ·rw [hf.out];exact h.ps
         ·exact h.kp
        ·have e15:((tK:Int) == 0)=false:=qqn (by omega);by_cases hP18:tB=false
         ·have e18:tB=false:=hP18;have hf:Hid (dat D at_=.opn):=by
           show _=_;rw [hD.out,rawR_open];unfold datN;simp only [HY.out,HM.out,HD.out,HX.out,HK.out,HB.out,HH.out,HN.out,HMo.out];rw [if_neg hP2,if_neg hP5,if_neg hP9,if_neg hP11,if_neg hP15,if_pos hP18]
          go_wp2_with fail
          refine (open_c D bp A C at_ st _ (by exact hN.out.ps.drewN _)).mono ?_;rintro e w1 ⟨rfl,hp1,hk1⟩;have hM:=qqh (NS.call (hN.out.drewN _) hp1 hk1);have b0:=hM.out.blk.cell 0 rfl;have b1:=hM.out.blk.cell 1 rfl;have b2:=hM.out.blk.cell 2 rfl;have b3:=hM.out.blk.cell 3 rfl;have g0:=hM.out.blk.free 0;have g1:=hM.out.blk.free 1;have g2:=hM.out.blk.free 2;have g3:=hM.out.blk.free 3;clear hp1 hk1;go_wp2_with fail
          have h:=NS.put (NS.put (NS.put (NS.put hM.out 0 (.int .i64 0)) 1 (.string ⟨#[]⟩)) 2 (.slice none 0 0)) 3 (.slice none 0 0);refine bodyPost_ret (v:=.agg #[.int .i64 0,.string ⟨#[]⟩,.slice none 0 0,.slice none 0 0]) (by simp [results,Tryz.results73,go_sem,b0,b1,b2,b3]) rfl ⟨⟨_,rfl,?_⟩,?_,?_⟩
          ·rw [hf.out];exact ⟨0,[],rfl⟩
          ·rw [hf.out];exact h.ps
          ·exact h.kp
         ·have e18:tB=true:=(by simpa using hP18);go_wp2_with fail
          refine (peek_p D bp A C at_ st (at_+11+tK) _ _ (by exact hN.out.ps.drewN _) (by omega) (by omega) (by omega) (by omega)).mono ?_;rintro e w1 ⟨rfl,nqz,rfl⟩;by_cases hP23:D.c (at_+11+tK)=90
          ·have e23:((D.c (at_+11+tK):Int) == 90)=true:=(by rw [beq_iff_eq];omega);have hn0:11+tK+1 ≠ 0:=(by omega);have hf:Hid (dat D at_=.good (4,D.sub at_ (11+tK+1)) (at_+(11+tK+1))):=by
            show _=_;rw [hD.out];refine rawR_good ?_ hn0;unfold datN;simp only [HY.out,HM.out,HD.out,HX.out,HK.out,HB.out,HH.out,HN.out,HMo.out];rw [if_neg hP2,if_neg hP5,if_neg hP9,if_neg hP11,if_neg hP15,if_neg hP18,if_pos hP23]
           have hin:at_+(11+tK+1)<=D.n:=(by omega);go_wp2_with fail
           refine (raw_c D bp A C at_ st _ _ _ (by exact hN.out.ps.drewN _) (by omega) (by omega) (by omega) (by omega)).mono ?_;rintro e w1 ⟨rfl,hp1,hk1⟩;rw [int_nat (n:=11+tK+1) (by omega)] at hp1 ⊢;have hM:=qqh (NS.call (hN.out.drewN _) hp1 hk1);obtain ⟨S,hS⟩:∃ S:ByteArray,(⟨(D.sub at_ (11+tK+1)).toArray⟩:ByteArray)=S:=⟨_,rfl⟩;rw [hS];have HS:=qqh hS;have b0:=hM.out.blk.cell 0 rfl;have b1:=hM.out.blk.cell 1 rfl;have b2:=hM.out.blk.cell 2 rfl;have b3:=hM.out.blk.cell 3 rfl;have g0:=hM.out.blk.free 0;have g1:=hM.out.blk.free 1;have g2:=hM.out.blk.free 2;have g3:=hM.out.blk.free 3;clear hp1 hk1 hS hn0;go_wp2_with fail
           have h:=NS.put (NS.put (NS.put (NS.put hM.out 0 (.int .i64 4)) 1 (.string S)) 2 (.slice none 0 0)) 3 (.slice none 0 0);refine bodyPost_ret (v:=.agg #[.int .i64 4,.string S,.slice none 0 0,.slice none 0 0]) (by simp [results,Tryz.results73,go_sem,b0,b1,b2,b3]) rfl ⟨⟨_,rfl,?_⟩,?_,?_⟩
           ·rw [hf.out];show _=leafV _ _;unfold leafV;rw [HS.out];rfl
           ·rw [hf.out];exact h.ps
           ·exact h.kp
          ·have e23:((D.c (at_+11+tK):Int) == 90)=false:=qqn (by omega);by_cases hP25:D.c (at_+11+tK)=122
           ·have e25:((D.c (at_+11+tK):Int) == 122)=true:=(by rw [beq_iff_eq];omega);have hf:Hid (dat D at_=.opn):=by
             show _=_;rw [hD.out,rawR_open];unfold datN;simp only [HY.out,HM.out,HD.out,HX.out,HK.out,HB.out,HH.out,HN.out,HMo.out];rw [if_neg hP2,if_neg hP5,if_neg hP9,if_neg hP11,if_neg hP15,if_neg hP18,if_neg hP23,if_pos hP25]
            go_wp2_with fail
            refine (open_c D bp A C at_ st _ (by exact hN.out.ps.drewN _)).mono ?_;rintro e w1 ⟨rfl,hp1,hk1⟩;have hM:=qqh (NS.call (hN.out.drewN _) hp1 hk1);have b0:=hM.out.blk.cell 0 rfl;have b1:=hM.out.blk.cell 1 rfl;have b2:=hM.out.blk.cell 2 rfl;have b3:=hM.out.blk.cell 3 rfl;have g0:=hM.out.blk.free 0;have g1:=hM.out.blk.free 1;have g2:=hM.out.blk.free 2;have g3:=hM.out.blk.free 3;clear hp1 hk1;go_wp2_with fail
            have h:=NS.put (NS.put (NS.put (NS.put hM.out 0 (.int .i64 0)) 1 (.string ⟨#[]⟩)) 2 (.slice none 0 0)) 3 (.slice none 0 0);refine bodyPost_ret (v:=.agg #[.int .i64 0,.string ⟨#[]⟩,.slice none 0 0,.slice none 0 0]) (by simp [results,Tryz.results73,go_sem,b0,b1,b2,b3]) rfl ⟨⟨_,rfl,?_⟩,?_,?_⟩
            ·rw [hf.out];exact ⟨0,[],rfl⟩
            ·rw [hf.out];exact h.ps
            ·exact h.kp
           ·have e25:((D.c (at_+11+tK):Int) == 122)=false:=qqn (by omega);go_upto_region 28 with fail;go_cut [114,10] (fun c b wx => c=.bool (decide (D.c (at_+11+tK)=43\/D.c (at_+11+tK)=45))/\b=.int .u8 (D.c (at_+11+tK))/\∃ n,wx=((w.alloc (.cells #[.int .i64 0,.string ⟨#[]⟩,.slice none 0 0,.slice none 0 0] 43)).drewN n))
            case first =>
             go_wp2_with (first
              | fail)
             all_goals (go_meet;refine ⟨congrArg Value.bool ?_,congrArg (Value.int .u8) (by first | rfl | omega),_,rfl⟩;(first | (symm;rw [decide_eq_true_iff];(try simp only [beq_eq_false_iff_ne] at *);omega) | (symm;rw [decide_eq_false_iff_not];(try simp only [beq_iff_eq,beq_eq_false_iff_ne,bne_iff_ne,bne_eq_false_iff_eq] at *);omega) | (rw [Bool.eq_iff_iff];simp <;> omega)))
            case rest =>
             obtain ⟨hc,rfl,nq,rfl⟩:=hcut;by_cases hP28:D.c (at_+11+tK)=43\/D.c (at_+11+tK)=45
             ·rw [qqt hP28] at hc;subst hc;go_wp2_with fail
              refine (two_p D bp A C at_ st (at_+11+tK+1) 2 _ _ _ (by exact hN.out.ps.drewN _) (by omega) (by omega) (by omega) rfl (by omega) (by omega)).mono ?_;rintro e w1 ⟨rfl,nqH,rfl⟩;rw [HH.out];go_wp2_with fail
              refine (two_p D bp A C at_ st (at_+11+tK+4) 2 _ _ _ (by exact hN.out.ps.drewN _) (by omega) (by omega) (by omega) rfl (by omega) (by omega)).mono ?_;rintro e w1 ⟨rfl,nqN,rfl⟩;rw [HN.out];go_upto_region 30 with fail;go_cut [141] (fun c wx => c=.bool (decide (tH<0\/D.c (at_+11+tK+3) ≠ 58\/tN<0))/\∃ n,wx=((w.alloc (.cells #[.int .i64 0,.string ⟨#[]⟩,.slice none 0 0,.slice none 0 0] 43)).drewN n))
              case first =>
               go_wp2_with (first
                | (go_at_call 20;refine (peek_p D bp A C at_ st (at_+11+tK+3) _ _ (by exact hN.out.ps.drewN _) (by omega) (by omega) (by omega) (by omega)).mono ?_;rintro e w1 ⟨rfl,nq,rfl⟩))
               all_goals (go_meet;refine ⟨congrArg Value.bool ?_,_,rfl⟩;(first | (symm;rw [decide_eq_true_iff];(try simp only [beq_eq_false_iff_ne] at *);omega) | (symm;rw [decide_eq_false_iff_not];(try simp only [beq_iff_eq,beq_eq_false_iff_ne,bne_iff_ne,bne_eq_false_iff_eq] at *);omega) | (rw [Bool.eq_iff_iff];simp <;> omega)))
              case rest =>
               obtain ⟨hc,nq,rfl⟩:=hcut;by_cases hP30:tH<0\/D.c (at_+11+tK+3) ≠ 58\/tN<0
               ·rw [qqt hP30] at hc;subst hc;have hf:Hid (dat D at_=.opn):=by
                 show _=_;rw [hD.out,rawR_open];unfold datN;simp only [HY.out,HM.out,HD.out,HX.out,HK.out,HB.out,HH.out,HN.out,HMo.out];rw [if_neg hP2,if_neg hP5,if_neg hP9,if_neg hP11,if_neg hP15,if_neg hP18,if_neg hP23,if_neg hP25,if_pos hP28,if_pos hP30]
                go_wp2_with fail
                refine (open_c D bp A C at_ st _ (by exact hN.out.ps.drewN _)).mono ?_;rintro e w1 ⟨rfl,hp1,hk1⟩;have hM:=qqh (NS.call (hN.out.drewN _) hp1 hk1);have b0:=hM.out.blk.cell 0 rfl;have b1:=hM.out.blk.cell 1 rfl;have b2:=hM.out.blk.cell 2 rfl;have b3:=hM.out.blk.cell 3 rfl;have g0:=hM.out.blk.free 0;have g1:=hM.out.blk.free 1;have g2:=hM.out.blk.free 2;have g3:=hM.out.blk.free 3;clear hp1 hk1;go_wp2_with fail
                have h:=NS.put (NS.put (NS.put (NS.put hM.out 0 (.int .i64 0)) 1 (.string ⟨#[]⟩)) 2 (.slice none 0 0)) 3 (.slice none 0 0);refine bodyPost_ret (v:=.agg #[.int .i64 0,.string ⟨#[]⟩,.slice none 0 0,.slice none 0 0]) (by simp [results,Tryz.results73,go_sem,b0,b1,b2,b3]) rfl ⟨⟨_,rfl,?_⟩,?_,?_⟩
                ·rw [hf.out];exact ⟨0,[],rfl⟩
                ·rw [hf.out];exact h.ps
                ·exact h.kp
               ·rw [qqf hP30] at hc;subst hc;go_upto_region 33 with fail;go_cut [150] (fun c wx => c=.bool (decide (23<tH\/59<tN))/\∃ n,wx=((w.alloc (.cells #[.int .i64 0,.string ⟨#[]⟩,.slice none 0 0,.slice none 0 0] 43)).drewN n))
                case first =>
                 go_wp2_with (first
                  | fail)
                 all_goals (go_meet;refine ⟨congrArg Value.bool ?_,_,rfl⟩;(first | (symm;rw [decide_eq_true_iff];(try simp only [beq_eq_false_iff_ne] at *);omega) | (symm;rw [decide_eq_false_iff_not];(try simp only [beq_iff_eq,beq_eq_false_iff_ne,bne_iff_ne,bne_eq_false_iff_eq] at *);omega) | (rw [Bool.eq_iff_iff];simp <;> omega)))
                case rest =>
                 obtain ⟨hc,nq,rfl⟩:=hcut;by_cases hP33:23<tH\/59<tN
                 ·rw [qqt hP33] at hc;subst hc;have hf:Hid (dat D at_=.opn):=by
                   show _=_;rw [hD.out,rawR_open];unfold datN;simp only [HY.out,HM.out,HD.out,HX.out,HK.out,HB.out,HH.out,HN.out,HMo.out];rw [if_neg hP2,if_neg hP5,if_neg hP9,if_neg hP11,if_neg hP15,if_neg hP18,if_neg hP23,if_neg hP25,if_pos hP28,if_neg hP30,if_pos hP33]
                  go_wp2_with fail
                  refine (open_c D bp A C at_ st _ (by exact hN.out.ps.drewN _)).mono ?_;rintro e w1 ⟨rfl,hp1,hk1⟩;have hM:=qqh (NS.call (hN.out.drewN _) hp1 hk1);have b0:=hM.out.blk.cell 0 rfl;have b1:=hM.out.blk.cell 1 rfl;have b2:=hM.out.blk.cell 2 rfl;have b3:=hM.out.blk.cell 3 rfl;have g0:=hM.out.blk.free 0;have g1:=hM.out.blk.free 1;have g2:=hM.out.blk.free 2;have g3:=hM.out.blk.free 3;clear hp1 hk1;go_wp2_with fail
                  have h:=NS.put (NS.put (NS.put (NS.put hM.out 0 (.int .i64 0)) 1 (.string ⟨#[]⟩)) 2 (.slice none 0 0)) 3 (.slice none 0 0);refine bodyPost_ret (v:=.agg #[.int .i64 0,.string ⟨#[]⟩,.slice none 0 0,.slice none 0 0]) (by simp [results,Tryz.results73,go_sem,b0,b1,b2,b3]) rfl ⟨⟨_,rfl,?_⟩,?_,?_⟩
                  ·rw [hf.out];exact ⟨0,[],rfl⟩
                  ·rw [hf.out];exact h.ps
                  ·exact h.kp
                 ·rw [qqf hP33] at hc;subst hc;have hn0:11+tK+6 ≠ 0:=(by omega);have hf:Hid (dat D at_=.good (4,D.sub at_ (11+tK+6)) (at_+(11+tK+6))):=by
                   show _=_;rw [hD.out];refine rawR_good ?_ hn0;unfold datN;simp only [HY.out,HM.out,HD.out,HX.out,HK.out,HB.out,HH.out,HN.out,HMo.out];rw [if_neg hP2,if_neg hP5,if_neg hP9,if_neg hP11,if_neg hP15,if_neg hP18,if_neg hP23,if_neg hP25,if_pos hP28,if_neg hP30,if_neg hP33]
                  have hin:at_+(11+tK+6)<=D.n:=(by omega);go_wp2_with fail
                  refine (raw_c D bp A C at_ st _ _ _ (by exact hN.out.ps.drewN _) (by omega) (by omega) (by omega) (by omega)).mono ?_;rintro e w1 ⟨rfl,hp1,hk1⟩;rw [int_nat (n:=11+tK+6) (by omega)] at hp1 ⊢;have hM:=qqh (NS.call (hN.out.drewN _) hp1 hk1);obtain ⟨S,hS⟩:∃ S:ByteArray,(⟨(D.sub at_ (11+tK+6)).toArray⟩:ByteArray)=S:=⟨_,rfl⟩;rw [hS];have HS:=qqh hS;have b0:=hM.out.blk.cell 0 rfl;have b1:=hM.out.blk.cell 1 rfl;have b2:=hM.out.blk.cell 2 rfl;have b3:=hM.out.blk.cell 3 rfl;have g0:=hM.out.blk.free 0;have g1:=hM.out.blk.free 1;have g2:=hM.out.blk.free 2;have g3:=hM.out.blk.free 3;clear hp1 hk1 hS hn0;go_wp2_with fail
                  have h:=NS.put (NS.put (NS.put (NS.put hM.out 0 (.int .i64 4)) 1 (.string S)) 2 (.slice none 0 0)) 3 (.slice none 0 0);refine bodyPost_ret (v:=.agg #[.int .i64 4,.string S,.slice none 0 0,.slice none 0 0]) (by simp [results,Tryz.results73,go_sem,b0,b1,b2,b3]) rfl ⟨⟨_,rfl,?_⟩,?_,?_⟩
                  ·rw [hf.out];show _=leafV _ _;unfold leafV;rw [HS.out];rfl
                  ·rw [hf.out];exact h.ps
                  ·exact h.kp
             ·rw [qqf hP28] at hc;subst hc;have hn0:11+tK ≠ 0:=(by omega);have hf:Hid (dat D at_=.good (5,D.sub at_ (11+tK)) (at_+(11+tK))):=by
               show _=_;rw [hD.out];refine rawR_good ?_ hn0;unfold datN;simp only [HY.out,HM.out,HD.out,HX.out,HK.out,HB.out,HH.out,HN.out,HMo.out];rw [if_neg hP2,if_neg hP5,if_neg hP9,if_neg hP11,if_neg hP15,if_neg hP18,if_neg hP23,if_neg hP25,if_neg hP28]
              have hin:at_+(11+tK)<=D.n:=(by omega);go_wp2_with fail
              refine (raw_c D bp A C at_ st _ _ _ (by exact hN.out.ps.drewN _) (by omega) (by omega) (by omega) (by omega)).mono ?_;rintro e w1 ⟨rfl,hp1,hk1⟩;rw [int_nat (n:=11+tK) (by omega)] at hp1 ⊢;have hM:=qqh (NS.call (hN.out.drewN _) hp1 hk1);obtain ⟨S,hS⟩:∃ S:ByteArray,(⟨(D.sub at_ (11+tK)).toArray⟩:ByteArray)=S:=⟨_,rfl⟩;rw [hS];have HS:=qqh hS;have b0:=hM.out.blk.cell 0 rfl;have b1:=hM.out.blk.cell 1 rfl;have b2:=hM.out.blk.cell 2 rfl;have b3:=hM.out.blk.cell 3 rfl;have g0:=hM.out.blk.free 0;have g1:=hM.out.blk.free 1;have g2:=hM.out.blk.free 2;have g3:=hM.out.blk.free 3;clear hp1 hk1 hS hn0;go_wp2_with fail
              have h:=NS.put (NS.put (NS.put (NS.put hM.out 0 (.int .i64 5)) 1 (.string S)) 2 (.slice none 0 0)) 3 (.slice none 0 0);refine bodyPost_ret (v:=.agg #[.int .i64 5,.string S,.slice none 0 0,.slice none 0 0]) (by simp [results,Tryz.results73,go_sem,b0,b1,b2,b3]) rfl ⟨⟨_,rfl,?_⟩,?_,?_⟩
              ·rw [hf.out];show _=leafV _ _;unfold leafV;rw [HS.out];rfl
              ·rw [hf.out];exact h.ps
              ·exact h.kp
end Go.Proofs.YtpgmddjgcgpoeaaGreat
