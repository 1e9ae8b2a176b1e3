/-
  A part of the proof.
-/
import Derived.Test.YtpgmddjgcgpoeaaGreatD26
set_option linter.unusedVariables false
set_option linter.unusedSimpArgs false
set_option maxRecDepth 100000
set_option maxHeartbeats 8000000
namespace Go.Proofs.YtpgmddjgcgpoeaaGreat
open Go.RowKit
theorem number_dec (D:Doc) (bp:Nat) (A:Option Addr) (C:Nat) (at_ st:Nat) (w:World) (hp:PS D bp A C w at_ st) (hat:at_<=D.n) (hA:∀ a,A=some a->a.block<w.heap.size) (HX1:Hid (¬ (0<=twoRun D at_ 0 4/\D.c (at_+4)=45))) (HX3:Hid (¬ (0<=twoRun D at_ 0 2/\D.c (at_+2)=58))) (HB0:Hid (hasB D at_ [48,120]=false)) (HB1:Hid (hasB D at_ [48,111]=false)) (HB2:Hid (hasB D at_ [48,98]=false)) (HX:Hid (¬ (hasB D (at_+sgnN D at_) [105,110,102]=true\/hasB D (at_+sgnN D at_) [110,97,110]=true))) :
  Calls Tryz.prog 50 #[.pointer (some ⟨bp,0,none⟩)] w fun e w' => (∃ v,e=.returned v/\LeafOk (numP D at_) v)/\PS D bp A C w' ((numP D at_).pos D) ((numP D at_).st st)/\Kp (Only bp) w w':=by
 have hs:=D.small;have hlt:=hp.blk.lt;have hN:=qqh (NS.start hp hA w.heap.size rfl [.int .i64 0,.string ⟨#[]⟩,.slice none 0 0,.slice none 0 0] 43);have hA1:∀ a,A=some a->a.block<(w.alloc (.cells #[.int .i64 0,.string ⟨#[]⟩,.slice none 0 0,.slice none 0 0] 43)).heap.size:=fun a ha => by have:=hA a ha;simp;omega
 have HA1:=qqh hA1;clear hp hA hA1;have hck:=clkN_in D at_;have hdn:=datN_in D at_ hat;have HE:Hid (numP D at_=if 0<=twoRun D at_ 0 4/\D.c (at_+4)=45 then dtd D (dat D at_) else if 0<=twoRun D at_ 0 2/\D.c (at_+2)=58 then timN D at_ else if hasB D at_ [48,120]=true then baseN D at_ 16
  else if hasB D at_ [48,111]=true then baseN D at_ 8 else if hasB D at_ [48,98]=true then baseN D at_ 2 else infN D at_ (sgnN D at_)):=rfl
 obtain ⟨t4,ht⟩:∃ t,twoRun D at_ 0 4=t:=⟨_,rfl⟩;have Ht4:=qqh ht;have h40:0<=t4->0<=twoRun D at_ 0 4:=fun h => by rw [ht];exact h
 have H40:=qqh h40;clear ht h40;obtain ⟨t2,ht⟩:∃ t,twoRun D at_ 0 2=t:=⟨_,rfl⟩;have Ht2:=qqh ht;clear ht;obtain ⟨tK,ht⟩:∃ t,clkN D at_=t:=⟨_,rfl⟩;rw [ht] at hck;have HtK:=qqh ht;clear ht;obtain ⟨tB,ht⟩:∃ t,clkB D at_=t:=⟨_,rfl⟩;have HtB:=qqh ht;clear ht;go_enter Tryz.func50,Tryz.ntmps50;go_upto_region 1 with fail;go_cut [21] (fun c wx => c=.bool (decide (0<=t4/\D.c (at_+4)=45))/\∃ n,wx=((w.alloc (.cells #[.int .i64 0,.string ⟨#[]⟩,.slice none 0 0,.slice none 0 0] 43)).drewN n))
 case first =>
  go_wp2_with (first
   | (go_at_call 71;refine (two_p D bp A C at_ st (at_) 4 _ _ _ (by first | exact hN.out.ps | exact hN.out.ps) (by omega) (by omega) (by omega) rfl (by omega) (by omega)).mono ?_;rintro e w1 ⟨rfl,nq,rfl⟩;rw [Ht4.out])
   | (go_at_call 20;refine (peek_p D bp A C at_ st (at_+4) _ _ (by first | exact hN.out.ps | exact hN.out.ps.drewN _) (by omega) (by omega) (by omega) (by omega)).mono ?_;rintro e w1 ⟨rfl,nq,rfl⟩))
  all_goals (go_meet;refine ⟨congrArg Value.bool ?_,_,rfl⟩;(first | (symm;rw [decide_eq_true_iff];(try simp only [beq_iff_eq,beq_eq_false_iff_ne,bne_iff_ne,bne_eq_false_iff_eq] at *);omega) | (symm;rw [decide_eq_false_iff_not];(try simp only [beq_iff_eq,beq_eq_false_iff_ne,bne_iff_ne,bne_eq_false_iff_eq] at *);omega) | (rw [Bool.eq_iff_iff];simp <;> omega)))
 case rest =>
  obtain ⟨hc,nq,rfl⟩:=hcut;by_cases hP1:0<=t4/\D.c (at_+4)=45
  ·rw [qqt hP1] at hc;subst hc;exact absurd ⟨H40.out hP1.1,hP1.2⟩ HX1.out
  ·rw [qqf hP1] at hc;subst hc;have hn1:Hid (¬ (0<=twoRun D at_ 0 4/\D.c (at_+4)=45)):=(by show ¬ _;rw [Ht4.out];exact hP1);go_upto_region 3 with fail;go_cut [33] (fun c wx => c=.bool (decide (0<=t2/\D.c (at_+2)=58))/\∃ n,wx=((w.alloc (.cells #[.int .i64 0,.string ⟨#[]⟩,.slice none 0 0,.slice none 0 0] 43)).drewN n))
   case first =>
    go_wp2_with (first
     | (go_at_call 71;refine (two_p D bp A C at_ st (at_) 2 _ _ _ (by first | exact hN.out.ps | exact hN.out.ps.drewN _) (by omega) (by omega) (by omega) rfl (by omega) (by omega)).mono ?_;rintro e w1 ⟨rfl,nq,rfl⟩;rw [Ht2.out])
     | (go_at_call 20;refine (peek_p D bp A C at_ st (at_+2) _ _ (by first | exact hN.out.ps | exact hN.out.ps.drewN _) (by omega) (by omega) (by omega) (by omega)).mono ?_;rintro e w1 ⟨rfl,nq,rfl⟩))
    all_goals (go_meet;refine ⟨congrArg Value.bool ?_,_,rfl⟩;(first | (symm;rw [decide_eq_true_iff];(try simp only [beq_iff_eq,beq_eq_false_iff_ne,bne_iff_ne,bne_eq_false_iff_eq] at *);omega) | (symm;rw [decide_eq_false_iff_not];(try simp only [beq_iff_eq,beq_eq_false_iff_ne,bne_iff_ne,bne_eq_false_iff_eq] at *);omega) | (rw [Bool.eq_iff_iff];simp <;> omega)))
   case rest =>
    obtain ⟨hc,nq,rfl⟩:=hcut;by_cases hP3:0<=t2/\D.c (at_+2)=58
    ·rw [qqt hP3] at hc;subst hc;exact absurd (by rw [Ht2.out];exact hP3) HX3.out
    ·rw [qqf hP3] at hc;subst hc;have hn3:Hid (¬ (0<=twoRun D at_ 0 2/\D.c (at_+2)=58)):=(by show ¬ _;rw [Ht2.out];exact hP3);go_wp2_with fail
     refine wp_at (fun W => (W.cell? ⟨w.heap.size+1,0,none⟩=some (.string ⟨#[48,120]⟩)/\W.cell? ⟨w.heap.size+1,1,none⟩=some (.string ⟨#[48,111]⟩)/\W.cell? ⟨w.heap.size+1,2,none⟩=some (.string ⟨#[48,98]⟩))
      /\ Hid (NS D bp A C w w.heap.size [.int .i64 0,.string ⟨#[]⟩,.slice none 0 0,.slice none 0 0] 43 W at_ st)) ⟨?_,NS.alloc (NS.drewN hN.out _) _⟩ ?_
     ·refine ⟨?_,?_,?_⟩ <;> (rw [cell_new (by simp)];rfl)
     rintro W ⟨⟨z0,z1,z2⟩,hNW⟩;refine wp_loop_rounds 4 ?_;rw [rounds_succ];go_wp2_with fail
     refine (has_c D bp A C at_ st [48,120] _ (by first | exact hNW.out.ps | exact hNW.out.ps.drewN _) (by omega) (by simp) (by simp)).mono ?_;rintro e w2 ⟨rfl,nq0,rfl⟩;rw [HB0.out];go_wp2_with fail
     rw [rounds_succ];go_wp2_with fail
     refine (has_c D bp A C at_ st [48,111] _ (by first | exact hNW.out.ps | exact hNW.out.ps.drewN _) (by omega) (by simp) (by simp)).mono ?_;rintro e w2 ⟨rfl,nq1,rfl⟩;rw [HB1.out];go_wp2_with fail
     rw [rounds_succ];go_wp2_with fail
     refine (has_c D bp A C at_ st [48,98] _ (by first | exact hNW.out.ps | exact hNW.out.ps.drewN _) (by omega) (by simp) (by simp)).mono ?_;rintro e w2 ⟨rfl,nq2,rfl⟩;rw [HB2.out];go_wp2_with fail
     rw [rounds_succ];go_upto_region 21 with fail;go_cut [85] (fun c wx => c=.bool (decide (D.c at_=43\/D.c at_=45))/\∃ n,wx=(W.drewN n))
     case first =>
      go_wp2_with (go_at_call 20;refine (peek_p D bp A C at_ st at_ _ _ (by exact hNW.out.ps.drewN _) (by omega) (by omega) (by omega) (by omega)).mono ?_;rintro e w1 ⟨rfl,nq,rfl⟩)
      all_goals (go_meet;refine ⟨congrArg Value.bool ?_,_,rfl⟩;(first | (symm;rw [decide_eq_true_iff];(try simp only [beq_iff_eq,beq_eq_false_iff_ne,bne_iff_ne,bne_eq_false_iff_eq] at *);omega) | (symm;rw [decide_eq_false_iff_not];(try simp only [beq_iff_eq,beq_eq_false_iff_ne,bne_iff_ne,bne_eq_false_iff_eq] at *);omega) | (rw [Bool.eq_iff_iff];simp <;> omega)))
     case rest =>
      obtain ⟨hc,nq,rfl⟩:=hcut;subst hc;go_upto_if 85 with fail;go_cut [8] (fun x wx => x=.int .i64 (sgnN D at_:Nat)/\∃ n,wx=(W.drewN n))
      case first =>
       by_cases hP21:D.c at_=43\/D.c at_=45
       ·have e21:decide (D.c at_=43\/D.c at_=45)=true:=qqt hP21;go_wp2_with fail
        go_meet;exact ⟨by unfold sgnN;rw [if_pos hP21];rfl,_,rfl⟩
       ·have e21:decide (D.c at_=43\/D.c at_=45)=false:=qqf hP21;go_wp2_with fail
        go_meet;exact ⟨by unfold sgnN;rw [if_neg hP21];rfl,_,rfl⟩
      case rest =>
       obtain ⟨rfl,nq,rfl⟩:=hcut;have hsg:sgnN D at_<=1/\at_+sgnN D at_<=D.n:=by
        unfold sgnN;have:=Doc.in_of (D:=D) (k:=at_);split <;> omega
       obtain ⟨tn,ht⟩:∃ t,sgnN D at_=t:=⟨_,rfl⟩;rw [ht] at hsg ⊢;have Htn:=qqh ht;clear ht;have hf0:Hid (numP D at_=infN D at_ tn):=(by show _=_;rw [HE.out,if_neg hn1.out,if_neg hn3.out,if_neg (by rw [HB0.out];simp),if_neg (by rw [HB1.out];simp),if_neg (by rw [HB2.out];simp),Htn.out]);clear z0 z1 z2;go_upto_region 23 with fail;go_wp2_with fail
       refine wp_at (fun W2 => (W2.cell? ⟨W.heap.size,0,none⟩=some (.string ⟨#[105,110,102]⟩)/\W2.cell? ⟨W.heap.size,1,none⟩=some (.string ⟨#[110,97,110]⟩))
        /\ Hid (NS D bp A C w w.heap.size [.int .i64 0,.string ⟨#[]⟩,.slice none 0 0,.slice none 0 0] 43 W2 at_ st)) ⟨?_,NS.alloc (NS.drewN hNW.out _) _⟩ ?_
       ·refine ⟨?_,?_⟩ <;> (rw [cell_new (by simp)];rfl)
       rintro W2 ⟨⟨z0,z1⟩,hN2⟩;refine wp_loop_rounds 3 ?_;rw [rounds_succ];have q0:=hN2.out.ps.c0;have q1:=hN2.out.ps.c1;have hdl:decide ((at_:Int)+tn<=D.n)=true:=qqt (by omega);have HA2:Hid (∀ a,A=some a->a.block<W2.heap.size):=fun a ha => by have:=HA1.out a ha;have:=hN2.out.kp.size;have:=hN2.out.blk.lt;simp at *;omega
       go_upto_region 26 with fail;go_cut [119] (fun c wx => c=.bool (hasB D (at_+tn) [105,110,102])/\wx.cell? ⟨W.heap.size,1,none⟩=some (.string ⟨#[110,97,110]⟩)/\Hid (NS D bp A C w w.heap.size [.int .i64 0,.string ⟨#[]⟩,.slice none 0 0,.slice none 0 0] 43 wx at_ st))
       case first =>
        have w1:IntKind.i64.wrap ((at_:Int)+(tn:Int))=(at_:Int)+(tn:Int):=IntWalk.i64_in _ (by omega)
        go_region_held3 (fun w' => w'.cell? ⟨bp,0,none⟩=some (.slice A D.n C)/\w'.cell? ⟨bp,1,none⟩=some (.int .i64 at_)) (go_keep) (first | ((go_at_call 22;refine (has_c D W2.heap.size A C (at_+tn) 0 [105,110,102] _ (by exact PS.fresh (hN2.out.ps.drewN _) HA2.out _ rfl _ (at_+tn) (by omega)) (by omega) (by simp) (by simp)).mono ?_;rintro e w3 ⟨rfl,nq3,rfl⟩)))
        go_wp2_with fail
        go_meet;exact ⟨rfl,(World.cell?_alloc_lt (w:=W2) (a:=⟨W.heap.size,1,none⟩) _ (World.block_lt_of_cell? (w:=W2) (a:=⟨W.heap.size,1,none⟩) z1)).trans z1,(by first | exact NS.drewN (NS.alloc (NS.drewN hN2.out _) _) _ | exact NS.drewN (NS.alloc hN2.out _) _)⟩
       case rest =>
        obtain ⟨rfl,z1,hN2'⟩:=hcut;clear z0 q0 q1 HA2;have eBi0:hasB D (at_+tn) [105,110,102]=false:=(by have:=HX.out;rw [Htn.out] at this;simpa using fun h => this (.inl h));rw [eBi0];go_wp2_with fail
        rw [rounds_succ];have q0:=hN2'.out.ps.c0;have q1:=hN2'.out.ps.c1;have hdl:decide ((at_:Int)+tn<=D.n)=true:=qqt (by omega);have HA2:Hid (∀ a,A=some a->a.block<wc.heap.size):=fun a ha => by have:=HA1.out a ha;have:=hN2'.out.kp.size;have:=hN2'.out.blk.lt;simp at *;omega
        go_upto_region 26 with fail;go_cut [119] (fun c wx => c=.bool (hasB D (at_+tn) [110,97,110])/\True/\Hid (NS D bp A C w w.heap.size [.int .i64 0,.string ⟨#[]⟩,.slice none 0 0,.slice none 0 0] 43 wx at_ st))
        case first =>
         have w1:IntKind.i64.wrap ((at_:Int)+(tn:Int))=(at_:Int)+(tn:Int):=IntWalk.i64_in _ (by omega)
         go_region_held3 (fun w' => w'.cell? ⟨bp,0,none⟩=some (.slice A D.n C)/\w'.cell? ⟨bp,1,none⟩=some (.int .i64 at_)) (go_keep) (first | ((go_at_call 22;refine (has_c D wc.heap.size A C (at_+tn) 0 [110,97,110] _ (by exact PS.fresh (hN2'.out.ps.drewN _) HA2.out _ rfl _ (at_+tn) (by omega)) (by omega) (by simp) (by simp)).mono ?_;rintro e w3 ⟨rfl,nq3,rfl⟩)))
         go_wp2_with fail
         go_meet;exact ⟨rfl,trivial,(by first | exact NS.drewN (NS.alloc (NS.drewN hN2'.out _) _) _ | exact NS.drewN (NS.alloc hN2'.out _) _)⟩
        case rest =>
         obtain ⟨rfl,-,hN3'⟩:=hcut;have eBi1:hasB D (at_+tn) [110,97,110]=false:=(by have:=HX.out;rw [Htn.out] at this;simpa using fun h => this (.inr h));rw [eBi1];have hf1:Hid (numP D at_=tenN D at_ tn):=(by show _=_;rw [hf0.out,infN,if_neg (by simp [eBi0,eBi1])]);clear eBi0 eBi1 q0 q1;go_wp2_with fail
         as_aux_lemma =>
          have hgl:=grp_le D 10 (at_+tn);obtain ⟨tG,ht⟩:∃ t,grp D 10 (at_+tn)=t:=⟨_,rfl⟩;rw [ht] at hgl;have HG:=qqh ht;clear ht;rw [rounds_succ];go_wp2_with fail
          refine (grouped_p D bp A C at_ st (at_+tn) 10 _ _ _ (by first | exact hN3'.out.ps | exact hN3'.out.ps.drewN _) (by omega) (by omega) (by omega) rfl (by omega) (by omega)).mono ?_;rintro e w2 ⟨rfl,nqg,rfl⟩;rw [HG.out];go_upto_region 30 with fail;go_cut [139,11] (fun c b wx => c=.bool (decide (tG=0\/D.c (at_+tn)=48/\1<tG))/\b=.int .i64 (tG:Nat)/\∃ n,wx=(wc.drewN n))
          case first =>
           go_wp2_with (first
            | (go_at_call 20;refine (peek_p D bp A C at_ st (at_+tn) _ _ (by first | exact hN3'.out.ps | exact hN3'.out.ps.drewN _) (by omega) (by omega) (by omega) (by omega)).mono ?_;rintro e w1 ⟨rfl,nq,rfl⟩))
           all_goals (go_meet;refine ⟨congrArg Value.bool ?_,congrArg (Value.int .i64) (by first | rfl | omega),_,rfl⟩;(first | (symm;rw [decide_eq_true_iff];(try simp only [beq_iff_eq,beq_eq_false_iff_ne,bne_iff_ne,bne_eq_false_iff_eq] at *);omega) | (symm;rw [decide_eq_false_iff_not];(try simp only [beq_iff_eq,beq_eq_false_iff_ne,bne_iff_ne,bne_eq_false_iff_eq] at *);omega) | (rw [Bool.eq_iff_iff];simp <;> omega)))
          case rest =>
           obtain ⟨hc,rfl,nq,rfl⟩:=hcut;by_cases hP30:tG=0\/D.c (at_+tn)=48/\1<tG
           ·rw [qqt hP30] at hc;subst hc;have hf:Hid (numP D at_=.bad):=by
             show _=_;rw [hf1.out,tenN,HG.out,if_pos hP30]
            go_wp2_with fail
            refine (fail_c D bp A C at_ st _ (by first | exact hN3'.out.ps | exact hN3'.out.ps.drewN _)).mono ?_;rintro e w1 ⟨rfl,hp1,hk1⟩;have hM:=qqh (NS.call (D:=D) (A:=A) (C:=C) (w0:=w) (R:=w.heap.size) (xs:=[.int .i64 0,.string ⟨#[]⟩,.slice none 0 0,.slice none 0 0]) (t:=43) (at_:=at_) (st:=st) (by first | exact hN3'.out | exact hN3'.out.drewN _) hp1 hk1);have b0:=hM.out.blk.cell 0 rfl;have b1:=hM.out.blk.cell 1 rfl;have b2:=hM.out.blk.cell 2 rfl;have b3:=hM.out.blk.cell 3 rfl;have g0:=hM.out.blk.free 0;have g1:=hM.out.blk.free 1;have g2:=hM.out.blk.free 2;have g3:=hM.out.blk.free 3;clear hp1 hk1;go_wp2_with fail
            have h:=NS.put (NS.put (NS.put (NS.put hM.out 0 (.int .i64 0)) 1 (.string ⟨#[]⟩)) 2 (.slice none 0 0)) 3 (.slice none 0 0);refine bodyPost_ret (v:=.agg #[.int .i64 0,.string ⟨#[]⟩,.slice none 0 0,.slice none 0 0]) (by simp [results,Tryz.results50,go_sem,b0,b1,b2,b3]) rfl ⟨⟨_,rfl,?_⟩,?_,?_⟩
            ·rw [hf.out];exact ⟨0,[],rfl⟩
            ·rw [hf.out];exact h.ps
            ·exact h.kp
           ·rw [qqf hP30] at hc;subst hc;have hf2:Hid (numP D at_=fracN D at_ (tn+tG)):=by
             show _=_;rw [hf1.out,tenN,HG.out,if_neg hP30]
            go_wp2_with fail
            refine (peek_p D bp A C at_ st (at_+(tn+tG)) _ _ (by first | exact hN3'.out.ps | exact hN3'.out.ps.drewN _) (by omega) (by omega) (by omega) (by omega)).mono ?_;rintro e w1 ⟨rfl,nqd,rfl⟩;go_upto_if 149 with fail;go_cut [8,12] (fun x y wx => ∃ n kind:Nat,x=.int .i64 (n:Nat)/\y=.int .i64 (kind:Nat)/\at_+n<=D.n/\0<n/\Hid (numP D at_=expN D at_ n kind)/\Hid (NS D bp A C w w.heap.size [.int .i64 0,.string ⟨#[]⟩,.slice none 0 0,.slice none 0 0] 43 wx at_ st))
            case first =>
             by_cases hPD:D.c (at_+(tn+tG))=46
             ·have eD:((D.c (at_+(tn+tG)):Int) == 46)=true:=(by rw [beq_iff_eq];omega);have hfl:=grp_le D 10 (at_+(tn+tG)+1);obtain ⟨tF,ht⟩:∃ t,grp D 10 (at_+(tn+tG)+1)=t:=⟨_,rfl⟩;rw [ht] at hfl;have HF:=qqh ht;clear ht;have hdi:=Doc.in_of (D:=D) (k:=at_+(tn+tG)) (by omega);go_wp2_with fail
              refine (grouped_p D bp A C at_ st (at_+(tn+tG)+1) 10 _ _ _ (by exact hN3'.out.ps.drewN _) (by omega) (by omega) (by omega) rfl (by omega) (by omega)).mono ?_;rintro e w2 ⟨rfl,nqf,rfl⟩;rw [HF.out];by_cases hPF:tF=0
              ·have eF:((tF:Int) == 0)=true:=(by rw [beq_iff_eq];omega);have hf:Hid (numP D at_=.bad):=by
                show _=_;rw [hf2.out,fracN,if_pos hPD,HF.out,if_pos hPF]
               go_wp2_with fail
               refine (fail_c D bp A C at_ st _ (by first | exact hN3'.out.ps | exact hN3'.out.ps.drewN _)).mono ?_;rintro e w1 ⟨rfl,hp1,hk1⟩;have hM:=qqh (NS.call (D:=D) (A:=A) (C:=C) (w0:=w) (R:=w.heap.size) (xs:=[.int .i64 0,.string ⟨#[]⟩,.slice none 0 0,.slice none 0 0]) (t:=43) (at_:=at_) (st:=st) (by first | exact hN3'.out | exact hN3'.out.drewN _) hp1 hk1);have b0:=hM.out.blk.cell 0 rfl;have b1:=hM.out.blk.cell 1 rfl;have b2:=hM.out.blk.cell 2 rfl;have b3:=hM.out.blk.cell 3 rfl;have g0:=hM.out.blk.free 0;have g1:=hM.out.blk.free 1;have g2:=hM.out.blk.free 2;have g3:=hM.out.blk.free 3;clear hp1 hk1;go_wp2_with fail
               have h:=NS.put (NS.put (NS.put (NS.put hM.out 0 (.int .i64 0)) 1 (.string ⟨#[]⟩)) 2 (.slice none 0 0)) 3 (.slice none 0 0);refine bodyPost_ret (v:=.agg #[.int .i64 0,.string ⟨#[]⟩,.slice none 0 0,.slice none 0 0]) (by simp [results,Tryz.results50,go_sem,b0,b1,b2,b3]) rfl ⟨⟨_,rfl,?_⟩,?_,?_⟩
               ·rw [hf.out];exact ⟨0,[],rfl⟩
               ·rw [hf.out];exact h.ps
               ·exact h.kp
              ·have eF:((tF:Int) == 0)=false:=qqn (by omega);have hf3:Hid (numP D at_=expN D at_ (tn+tG+1+tF) 2):=by
                show _=_;rw [hf2.out,fracN,if_pos hPD,HF.out,if_neg hPF]
               go_wp2_with fail
               go_meet;exact ⟨tn+tG+1+tF,2,congrArg (Value.int .i64) (by omega),rfl,by omega,by omega,hf3,hN3'.out.drewN _⟩
             ·have eD:((D.c (at_+(tn+tG)):Int) == 46)=false:=qqn (by omega);have hf3:Hid (numP D at_=expN D at_ (tn+tG) 1):=by
               show _=_;rw [hf2.out,fracN,if_neg hPD]
              go_wp2_with fail
              go_meet;exact ⟨tn+tG,1,congrArg (Value.int .i64) (by omega),rfl,by omega,by omega,hf3,hN3'.out.drewN _⟩
            case rest =>
             clear hdl;obtain ⟨n,kind,rfl,rfl,hn,hn0,hf3,hN3'⟩:=hcut
             as_aux_lemma =>
              go_upto_region 42 with fail;go_cut [172] (fun c wx => c=.bool (decide (D.c (at_+(n))=101\/D.c (at_+(n))=69))/\∃ n,wx=(wc.drewN n))
              case first =>
               go_wp2_with (first
                | (go_at_call 20;refine (peek_p D bp A C at_ st (at_+(n)) _ _ (by first | exact hN3'.out.ps | exact hN3'.out.ps.drewN _) (by omega) (by omega) (by omega) (by omega)).mono ?_;rintro e w1 ⟨rfl,nq,rfl⟩))
               all_goals (go_meet;refine ⟨congrArg Value.bool ?_,_,rfl⟩;(first | (symm;rw [decide_eq_true_iff];(try simp only [beq_iff_eq,beq_eq_false_iff_ne,bne_iff_ne,bne_eq_false_iff_eq] at *);omega) | (symm;rw [decide_eq_false_iff_not];(try simp only [beq_iff_eq,beq_eq_false_iff_ne,bne_iff_ne,bne_eq_false_iff_eq] at *);omega) | (rw [Bool.eq_iff_iff];simp <;> omega)))
              case rest =>
               obtain ⟨hc,nq,rfl⟩:=hcut;by_cases hP42:D.c (at_+(n))=101\/D.c (at_+(n))=69
               ·rw [qqt hP42] at hc;subst hc;go_upto_region 44 with fail;go_cut [184] (fun c wx => c=.bool (decide (D.c (at_+n+1)=43\/D.c (at_+n+1)=45))/\∃ m,wx=wc.drewN m)
                case first =>
                 go_wp2_with (first
                  | (go_at_call 20;refine (peek_p D bp A C at_ st (at_+n+1) _ _ (by first | exact hN3'.out.ps | exact hN3'.out.ps.drewN _) (by omega) (by omega) (by omega) (by omega)).mono ?_;rintro e w1 ⟨rfl,nq,rfl⟩))
                 all_goals (go_meet;refine ⟨congrArg Value.bool ?_,_,rfl⟩;(first | (symm;rw [decide_eq_true_iff];(try simp only [beq_iff_eq,beq_eq_false_iff_ne,bne_iff_ne,bne_eq_false_iff_eq] at *);omega) | (symm;rw [decide_eq_false_iff_not];(try simp only [beq_iff_eq,beq_eq_false_iff_ne,bne_iff_ne,bne_eq_false_iff_eq] at *);omega) | (rw [Bool.eq_iff_iff];simp <;> omega)))
                case rest =>
                 obtain ⟨hc,nq,rfl⟩:=hcut;go_upto_if 184 with fail;go_cut [13] (fun x wx => x=.int .i64 (expS D (at_+n):Nat)/\∃ m,wx=wc.drewN m)
                 case first =>
                  by_cases hP44:D.c (at_+n+1)=43\/D.c (at_+n+1)=45
                  ·rw [qqt hP44] at hc;subst hc;go_wp2_with fail
                   go_meet;exact ⟨by unfold expS;rw [if_pos hP44];rfl,_,rfl⟩
                  ·rw [qqf hP44] at hc;subst hc;go_wp2_with fail
                   go_meet;exact ⟨by unfold expS;rw [if_neg hP44];rfl,_,rfl⟩
                 case rest =>
                  obtain ⟨rfl,nq2,rfl⟩:=hcut;subst hc;have hms:1<=expS D (at_+n)/\expS D (at_+n)<=2:=(by unfold expS;split <;> omega);obtain ⟨ms,ht⟩:∃ t,expS D (at_+n)=t:=⟨_,rfl⟩;rw [ht] at hms ⊢;have hS:=qqh ht;clear ht;have hel:=grp_le D 10 (at_+n+ms);obtain ⟨tE,ht⟩:∃ t,grp D 10 (at_+n+ms)=t:=⟨_,rfl⟩;rw [ht] at hel;have HE2:=qqh ht;clear ht;go_wp2_with fail
                  refine (grouped_p D bp A C at_ st (at_+n+ms) 10 _ _ _ (by exact hN3'.out.ps.drewN _) (by omega) (by omega) (by omega) rfl (by omega) (by omega)).mono ?_;rintro e w2 ⟨rfl,nqe,rfl⟩;rw [HE2.out];by_cases hPE:tE=0
                  ·have eE:((tE:Int) == 0)=true:=(by rw [beq_iff_eq];omega);have hf:Hid (numP D at_=.bad):=by
                    show _=_;rw [hf3.out,expN,if_pos hP42,hS.out,HE2.out,if_pos hPE]
                   go_wp2_with fail
                   refine (fail_c D bp A C at_ st _ (by first | exact hN3'.out.ps | exact hN3'.out.ps.drewN _)).mono ?_;rintro e w1 ⟨rfl,hp1,hk1⟩;have hM:=qqh (NS.call (D:=D) (A:=A) (C:=C) (w0:=w) (R:=w.heap.size) (xs:=[.int .i64 0,.string ⟨#[]⟩,.slice none 0 0,.slice none 0 0]) (t:=43) (at_:=at_) (st:=st) (by first | exact hN3'.out | exact hN3'.out.drewN _) hp1 hk1);have b0:=hM.out.blk.cell 0 rfl;have b1:=hM.out.blk.cell 1 rfl;have b2:=hM.out.blk.cell 2 rfl;have b3:=hM.out.blk.cell 3 rfl;have g0:=hM.out.blk.free 0;have g1:=hM.out.blk.free 1;have g2:=hM.out.blk.free 2;have g3:=hM.out.blk.free 3;clear hp1 hk1;go_wp2_with fail
                   have h:=NS.put (NS.put (NS.put (NS.put hM.out 0 (.int .i64 0)) 1 (.string ⟨#[]⟩)) 2 (.slice none 0 0)) 3 (.slice none 0 0);refine bodyPost_ret (v:=.agg #[.int .i64 0,.string ⟨#[]⟩,.slice none 0 0,.slice none 0 0]) (by simp [results,Tryz.results50,go_sem,b0,b1,b2,b3]) rfl ⟨⟨_,rfl,?_⟩,?_,?_⟩
                   ·rw [hf.out];exact ⟨0,[],rfl⟩
                   ·rw [hf.out];exact h.ps
                   ·exact h.kp
                  ·have eE:((tE:Int) == 0)=false:=qqn (by omega);have hf:Hid (numP D at_=.good (2,D.sub at_ (n+ms+tE)) (at_+(n+ms+tE))):=by
                    show _=_;rw [hf3.out,expN,if_pos hP42,hS.out,HE2.out,if_neg hPE]
                   go_wp2_with fail
                   refine (raw_c D bp A C at_ st _ _ _ (by first | exact hN3'.out.ps | exact hN3'.out.ps.drewN _) (by omega) (by omega) (by omega) (by omega)).mono ?_;rintro e w1 ⟨rfl,hp1,hk1⟩;rw [int_nat (n:=n+ms+tE) (by omega)] at hp1 ⊢;have hM:=qqh (NS.call (D:=D) (A:=A) (C:=C) (w0:=w) (R:=w.heap.size) (xs:=[.int .i64 0,.string ⟨#[]⟩,.slice none 0 0,.slice none 0 0]) (t:=43) (at_:=at_) (st:=st) (by first | exact hN3'.out | exact hN3'.out.drewN _) hp1 hk1);obtain ⟨S,hS⟩:∃ S:ByteArray,(⟨(D.sub at_ (n+ms+tE)).toArray⟩:ByteArray)=S:=⟨_,rfl⟩;rw [hS];have HS:=qqh hS;have b0:=hM.out.blk.cell 0 rfl;have b1:=hM.out.blk.cell 1 rfl;have b2:=hM.out.blk.cell 2 rfl;have b3:=hM.out.blk.cell 3 rfl;have g0:=hM.out.blk.free 0;have g1:=hM.out.blk.free 1;have g2:=hM.out.blk.free 2;have g3:=hM.out.blk.free 3;clear hp1 hk1 hS;go_wp2_with fail
                   have h:=NS.put (NS.put (NS.put (NS.put hM.out 0 (.int .i64 2)) 1 (.string S)) 2 (.slice none 0 0)) 3 (.slice none 0 0);refine bodyPost_ret (v:=.agg #[.int .i64 2,.string S,.slice none 0 0,.slice none 0 0]) (by simp [results,Tryz.results50,go_sem,b0,b1,b2,b3]) rfl ⟨⟨_,rfl,?_⟩,?_,?_⟩
                   ·rw [hf.out];show _=leafV _ _;unfold leafV;first | (rw [HS.out];done) | (rw [HS.out];rfl)
                   ·rw [hf.out];exact h.ps
                   ·exact h.kp
               ·rw [qqf hP42] at hc;subst hc;have hf:Hid (numP D at_=.good (kind,D.sub at_ (n)) (at_+(n))):=by
                 show _=_;rw [hf3.out,expN,if_neg hP42]
                go_wp2_with fail
                refine (raw_c D bp A C at_ st _ _ _ (by first | exact hN3'.out.ps | exact hN3'.out.ps.drewN _) (by omega) (by omega) (by omega) (by omega)).mono ?_;rintro e w1 ⟨rfl,hp1,hk1⟩;rw [int_nat (n:=n) (by omega)] at hp1 ⊢;have hM:=qqh (NS.call (D:=D) (A:=A) (C:=C) (w0:=w) (R:=w.heap.size) (xs:=[.int .i64 0,.string ⟨#[]⟩,.slice none 0 0,.slice none 0 0]) (t:=43) (at_:=at_) (st:=st) (by first | exact hN3'.out | exact hN3'.out.drewN _) hp1 hk1);obtain ⟨S,hS⟩:∃ S:ByteArray,(⟨(D.sub at_ (n)).toArray⟩:ByteArray)=S:=⟨_,rfl⟩;rw [hS];have HS:=qqh hS;have b0:=hM.out.blk.cell 0 rfl;have b1:=hM.out.blk.cell 1 rfl;have b2:=hM.out.blk.cell 2 rfl;have b3:=hM.out.blk.cell 3 rfl;have g0:=hM.out.blk.free 0;have g1:=hM.out.blk.free 1;have g2:=hM.out.blk.free 2;have g3:=hM.out.blk.free 3;clear hp1 hk1 hS;go_wp2_with fail
                have h:=NS.put (NS.put (NS.put (NS.put hM.out 0 (.int .i64 (kind:Nat))) 1 (.string S)) 2 (.slice none 0 0)) 3 (.slice none 0 0);refine bodyPost_ret (v:=.agg #[.int .i64 (kind:Nat),.string S,.slice none 0 0,.slice none 0 0]) (by simp [results,Tryz.results50,go_sem,b0,b1,b2,b3]) rfl ⟨⟨_,rfl,?_⟩,?_,?_⟩
                ·rw [hf.out];show _=leafV _ _;unfold leafV;first | (rw [HS.out];done) | (rw [HS.out];rfl)
                ·rw [hf.out];exact h.ps
                ·exact h.kp
end Go.Proofs.YtpgmddjgcgpoeaaGreat
