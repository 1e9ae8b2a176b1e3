/-
  A part of the proof.
-/
import Derived.Test.YtpgmddjgcgpoeaaGreatD22
import Derived.Deep.RegionWith
import Derived.Deep.RegionHeld3
set_option linter.unusedVariables false
set_option linter.unusedSimpArgs false
set_option maxRecDepth 100000
set_option maxHeartbeats 8000000
namespace Go.Proofs.YtpgmddjgcgpoeaaGreat
open Go.RowKit
theorem dat_in {D:Doc} {k p:Nat} {x:Nat × List UInt8} (h:dat D k=.good x p) (hd:k+(datN D k).2<=D.n):p<=D.n:=by
 unfold dat rawR at h;split at h
 ·cases h
 ·injection h with _ h;omega
theorem datN_in (D:Doc) (k:Nat) (hk:k<=D.n):k+(datN D k).2<=D.n:=by
 have h8:=twoRun_in D 2 (k+8) 0;have hck:=clkN_in D (k+11);have hz:=Doc.in_of (D:=D) (k:=k+11+clkN D (k+11));have hm4:=twoRun_in D 2 (k+11+clkN D (k+11)+4) 0;unfold datN;generalize clkN D (k+11)=c at *;generalize monthP (twoRun D k 0 4) (twoRun D (k+5) 0 2)=mm at *;generalize twoRun D k 0 4=y at *;generalize twoRun D (k+5) 0 2=m at *;generalize twoRun D (k+8) 0 2=d at *;generalize twoRun D (k+11) 0 2=x at *;generalize twoRun D (k+11+c+1) 0 2=h at *;generalize twoRun D (k+11+c+4) 0 2=n at *;by_cases a1:m<0\/D.c (k+7) ≠ 45\/d<0
 ·rw [if_pos a1];simpa using hk
 rw [if_neg a1];by_cases a2:m<1\/12<m\/d<1\/mm<d\/y=0
 ·rw [if_pos a2];simpa using hk
 rw [if_neg a2];by_cases a3:D.c (k+10) ≠ 84/\D.c (k+10) ≠ 116/\(D.c (k+10) ≠ 32\/x<0)
 ·rw [if_pos a3];simp only;omega
 rw [if_neg a3];by_cases a4:D.c (k+10)=116
 ·rw [if_pos a4];simpa using hk
 rw [if_neg a4];by_cases a5:c=0
 ·rw [if_pos a5];simpa using hk
 rw [if_neg a5];by_cases a6:clkB D (k+11)=false
 ·rw [if_pos a6];simpa using hk
 rw [if_neg a6];by_cases a7:D.c (k+11+c)=90
 ·rw [if_pos a7];simp only;omega
 rw [if_neg a7];by_cases a8:D.c (k+11+c)=122
 ·rw [if_pos a8];simpa using hk
 rw [if_neg a8];by_cases a9:D.c (k+11+c)=43\/D.c (k+11+c)=45
 ·rw [if_pos a9];by_cases b1:h<0\/D.c (k+11+c+3) ≠ 58\/n<0
  ·rw [if_pos b1];simpa using hk
  rw [if_neg b1];by_cases b2:23<h\/59<n
  ·rw [if_pos b2];simpa using hk
  rw [if_neg b2];simp only;omega
 rw [if_neg a9];simp only;omega
theorem datedB_end (D:Doc):datedB D D.n=false:=by
 have h1:=D.out D.n (qqr _);unfold datedB;rw [h1];simp
theorem dtd_pos (D:Doc) (r:R (Nat × List UInt8)):(dtd D r).pos D=dtPos D (r.pos D):=by
 cases r with
 | good x k => unfold dtd dtPos;show _=if datedB D k=true then _ else _;by_cases h:datedB D k=true <;> simp [h,R.pos]
 | bad => show D.n=_;unfold dtPos;split <;> rfl
 | opn => show D.n=_;unfold dtPos;split <;> rfl
theorem dtd_st (D:Doc) (r:R (Nat × List UInt8)) (st:Nat):(dtd D r).st st=dtSt D (r.pos D) (r.st st):=by
 cases r with
 | good x k => unfold dtd dtSt;show _=if datedB D k=true then _ else _;by_cases h:datedB D k=true <;> simp [h,R.st]
 | bad => show failSt st=_;unfold dtSt;show _=if datedB D D.n=true then _ else _;rw [datedB_end];rfl
 | opn => show 2=_;unfold dtSt;show _=if datedB D D.n=true then _ else _;rw [datedB_end];rfl
theorem dtd_leaf (D:Doc) (r:R (Nat × List UInt8)) (v:Value) (h:LeafOk r v):LeafOk (dtd D r) v:=by
 cases r with
 | good x k => unfold dtd;show LeafOk (if datedB D k=true then _ else _) v;split;exact ⟨_,_,h⟩;exact h
 | bad => exact h
 | opn => exact h
theorem LeafOk.leaf {r:R (Nat × List UInt8)} {v:Value} (h:LeafOk r v):∃ k l,v=leafV k l:=by
 cases r with
 | good x k => exact ⟨_,_,h⟩
 | bad => exact h
 | opn => exact h
theorem grouped_p (D:Doc) (bp:Nat) (A:Option Addr) (C:Nat) (at_ st p b:Nat) (n base:Int) (w:World) (hp:PS D bp A C w at_ st) (hat:at_<=1073741900) (hn:0<=n) (hn2:n<=1073741900) (hb:base=(b:Int)) (hb2:b<=16) (hpp:(at_:Int)+n=(p:Int)) :
  Calls Tryz.prog 75 #[.pointer (some ⟨bp,0,none⟩),.int .i64 n,.int .i64 base] w fun e w' => e=.returned (.int .i64 (grp D b p:Nat))/\∃ nq,w'=w.drewN nq:=by
 obtain rfl:p=at_+n.toNat:=by omega
 subst hb;exact grouped_c D bp A C at_ st n b w hp hat hn hn2 (by omega) (by omega)
theorem PS.fresh {D:Doc} {bp:Nat} {A:Option Addr} {C:Nat} {w:World} {at_ st:Nat} (hp:PS D bp A C w at_ st) (hA:∀ a,A=some a->a.block<w.heap.size) (b:Nat) (hb:b=w.heap.size) (k:Int) (k':Nat) (e:k=(k':Int)) :
  PS D b A C (w.alloc (.cells #[.slice A D.n C,.int .i64 k,.int .i64 0] 56)) k' 0:=by
 subst hb;subst e;exact ⟨Blk.new _ _ _,(hp.alloc _).doc,fun a ha => Nat.ne_of_lt (hA a ha)⟩
theorem hasB_in {D:Doc} {k:Nat} {l:List UInt8} (h:hasB D k l=true):k+l.length<=D.n:=by unfold hasB at h;simp at h;exact h.1
theorem number_dt (D:Doc) (bp:Nat) (A:Option Addr) (C:Nat) (at_ st:Nat) (w:World) (hp:PS D bp A C w at_ st) (hat:at_<=D.n) (hA:∀ a,A=some a->a.block<w.heap.size) (HX1:Hid (0<=twoRun D at_ 0 4/\D.c (at_+4)=45)) :
  Calls Tryz.prog 50 #[.pointer (some ⟨bp,0,none⟩)] w fun e w' => (∃ v,e=.returned v/\LeafOk (numP D at_) v)/\PS D bp A C w' ((numP D at_).pos D) ((numP D at_).st st)/\Kp (Only bp) w w':=by
 have hs:=D.small;have hlt:=hp.blk.lt;have hN:=qqh (NS.start hp hA w.heap.size rfl [.int .i64 0,.string ⟨#[]⟩,.slice none 0 0,.slice none 0 0] 43);have hA1:∀ a,A=some a->a.block<(w.alloc (.cells #[.int .i64 0,.string ⟨#[]⟩,.slice none 0 0,.slice none 0 0] 43)).heap.size:=fun a ha => by have:=hA a ha;simp;omega
 have HA1:=qqh hA1;clear hp hA hA1;have hck:=clkN_in D at_;have hdn:=datN_in D at_ hat;have HE:Hid (numP D at_=if 0<=twoRun D at_ 0 4/\D.c (at_+4)=45 then dtd D (dat D at_) else if 0<=twoRun D at_ 0 2/\D.c (at_+2)=58 then timN D at_ else if hasB D at_ [48,120]=true then baseN D at_ 16
  else if hasB D at_ [48,111]=true then baseN D at_ 8 else if hasB D at_ [48,98]=true then baseN D at_ 2 else infN D at_ (sgnN D at_)):=rfl
 obtain ⟨t4,ht⟩:∃ t,twoRun D at_ 0 4=t:=⟨_,rfl⟩;have Ht4:=qqh ht;have h40:0<=t4->0<=twoRun D at_ 0 4:=fun h => by rw [ht];exact h
 have H40:=qqh h40;clear ht h40;obtain ⟨t2,ht⟩:∃ t,twoRun D at_ 0 2=t:=⟨_,rfl⟩;have Ht2:=qqh ht;clear ht;obtain ⟨tK,ht⟩:∃ t,clkN D at_=t:=⟨_,rfl⟩;rw [ht] at hck;have HtK:=qqh ht;clear ht;obtain ⟨tB,ht⟩:∃ t,clkB D at_=t:=⟨_,rfl⟩;have HtB:=qqh ht;clear ht;go_enter Tryz.func50,Tryz.ntmps50;go_upto_region 1 with fail;go_cut [21] (fun c wx => c=.bool (decide (0<=t4/\D.c (at_+4)=45))/\∃ n,wx=((w.alloc (.cells #[.int .i64 0,.string ⟨#[]⟩,.slice none 0 0,.slice none 0 0] 43)).drewN n))
 case first =>
  go_wp2_with (first
   | (go_at_call 71;refine (two_p D bp A C at_ st (at_) 4 _ _ _ (by first | exact hN.out.ps | exact hN.out.ps) (by omega) (by omega) (by omega) rfl (by omega) (by omega)).mono ?_;rintro e w1 ⟨rfl,nq,rfl⟩;rw [Ht4.out])
   | (go_at_call 20;refine (peek_p D bp A C at_ st (at_+4) _ _ (by first | exact hN.out.ps | exact hN.out.ps.drewN _) (by omega) (by omega) (by omega) (by omega)).mono ?_;rintro e w1 ⟨rfl,nq,rfl⟩))
  all_goals (go_meet;refine ⟨congrArg Value.bool ?_,_,rfl⟩;(first | (symm;rw [decide_eq_true_iff];(try simp only [beq_iff_eq,beq_eq_false_iff_ne,bne_iff_ne,bne_eq_false_iff_eq] at *);omega) | (symm;rw [decide_eq_false_iff_not];(try simp only [beq_iff_eq,beq_eq_false_iff_ne,bne_iff_ne,bne_eq_false_iff_eq] at *);omega) | (rw [Bool.eq_iff_iff];simp <;> omega)))
 case rest =>
  obtain ⟨hc,nq,rfl⟩:=hcut;by_cases hP1:0<=t4/\D.c (at_+4)=45
  ·rw [qqt hP1] at hc;subst hc;have hf:Hid (numP D at_=dtd D (dat D at_)):=(by show _=_;rw [HE.out,if_pos ⟨H40.out hP1.1,hP1.2⟩]);go_wp2_with fail
   refine (date_c D bp A C at_ st _ (by exact hN.out.ps.drewN _) (by omega) (by exact HA1.out) (H40.out hP1.1)).mono ?_;rintro e w1 ⟨⟨v,rfl,hlf⟩,hp1,hk1⟩;have hpl:(dat D at_).pos D<=D.n:=by
    cases hd:dat D at_ with
    | good x p => exact dat_in hd hdn
    | bad => exact qqr _
    | opn => exact qqr _
   have hM0:=qqh (NS.call (hN.out.drewN _) hp1 hk1);have hK1:=qqh hk1;clear hp1 hk1;obtain ⟨k,l,rfl⟩:=hlf.leaf;have HLF:=qqh hlf;clear hlf;go_wp2_with fail
   refine (dated_c D bp A C _ _ k l _ (by exact hM0.out.ps) (by omega) (fun a ha => by have:=HA1.out a ha;have:=hK1.out.size;simp at *;omega)).mono ?_;rintro e w2 ⟨rfl,hp2,hk2⟩;have hM:=qqh (NS.call hM0.out hp2 hk2);obtain ⟨S,hS⟩:∃ S:ByteArray,(⟨l.toArray⟩:ByteArray)=S:=⟨_,rfl⟩;unfold leafV;rw [hS];have HS:=qqh hS;have b0:=hM.out.blk.cell 0 rfl;have b1:=hM.out.blk.cell 1 rfl;have b2:=hM.out.blk.cell 2 rfl;have b3:=hM.out.blk.cell 3 rfl;have g0:=hM.out.blk.free 0;have g1:=hM.out.blk.free 1;have g2:=hM.out.blk.free 2;have g3:=hM.out.blk.free 3;clear hp2 hk2 hS;go_wp2_with fail
   have h:=NS.put (NS.put (NS.put (NS.put hM.out 0 (.int .i64 (k:Nat))) 1 (.string S)) 2 (.slice none 0 0)) 3 (.slice none 0 0);refine bodyPost_ret (v:=.agg #[.int .i64 (k:Nat),.string S,.slice none 0 0,.slice none 0 0]) (by simp [results,Tryz.results50,go_sem,b0,b1,b2,b3]) rfl ⟨⟨_,rfl,?_⟩,?_,?_⟩
   ·rw [hf.out];have hl:=dtd_leaf D _ _ HLF.out;rw [<- HS.out];exact hl
   ·rw [hf.out,dtd_pos,dtd_st];exact h.ps
   ·exact h.kp
  ·rw [qqf hP1] at hc;subst hc;exact absurd ⟨by rw [<- Ht4.out];exact HX1.out.1,HX1.out.2⟩ hP1
theorem number_tm (D:Doc) (bp:Nat) (A:Option Addr) (C:Nat) (at_ st:Nat) (w:World) (hp:PS D bp A C w at_ st) (hat:at_<=D.n) (hA:∀ a,A=some a->a.block<w.heap.size) (HX1:Hid (¬ (0<=twoRun D at_ 0 4/\D.c (at_+4)=45))) (HX3:Hid (0<=twoRun D at_ 0 2/\D.c (at_+2)=58)) :
  Calls Tryz.prog 50 #[.pointer (some ⟨bp,0,none⟩)] w fun e w' => (∃ v,e=.returned v/\LeafOk (numP D at_) v)/\PS D bp A C w' ((numP D at_).pos D) ((numP D at_).st st)/\Kp (Only bp) w w':=by
 have hs:=D.small;have hlt:=hp.blk.lt;have hN:=qqh (NS.start hp hA w.heap.size rfl [.int .i64 0,.string ⟨#[]⟩,.slice none 0 0,.slice none 0 0] 43);have hA1:∀ a,A=some a->a.block<(w.alloc (.cells #[.int .i64 0,.string ⟨#[]⟩,.slice none 0 0,.slice none 0 0] 43)).heap.size:=fun a ha => by have:=hA a ha;simp;omega
 have HA1:=qqh hA1;clear hp hA hA1;have hck:=clkN_in D at_;have hdn:=datN_in D at_ hat;have HE:Hid (numP D at_=if 0<=twoRun D at_ 0 4/\D.c (at_+4)=45 then dtd D (dat D at_) else if 0<=twoRun D at_ 0 2/\D.c (at_+2)=58 then timN D at_ else if hasB D at_ [48,120]=true then baseN D at_ 16
  else if hasB D at_ [48,111]=true then baseN D at_ 8 else if hasB D at_ [48,98]=true then baseN D at_ 2 else infN D at_ (sgnN D at_)):=rfl
 obtain ⟨t4,ht⟩:∃ t,twoRun D at_ 0 4=t:=⟨_,rfl⟩;have Ht4:=qqh ht;have h40:0<=t4->0<=twoRun D at_ 0 4:=fun h => by rw [ht];exact h
 have H40:=qqh h40;clear ht h40;obtain ⟨t2,ht⟩:∃ t,twoRun D at_ 0 2=t:=⟨_,rfl⟩;have Ht2:=qqh ht;clear ht;obtain ⟨tK,ht⟩:∃ t,clkN D at_=t:=⟨_,rfl⟩;rw [ht] at hck;have HtK:=qqh ht;clear ht;obtain ⟨tB,ht⟩:∃ t,clkB D at_=t:=⟨_,rfl⟩;have HtB:=qqh ht;clear ht;go_enter Tryz.func50,Tryz.ntmps50;go_upto_region 1 with fail;go_cut [21] (fun c wx => c=.bool (decide (0<=t4/\D.c (at_+4)=45))/\∃ n,wx=((w.alloc (.cells #[.int .i64 0,.string ⟨#[]⟩,.slice none 0 0,.slice none 0 0] 43)).drewN n))
 case first =>
  go_wp2_with (first
   | (go_at_call 71;refine (two_p D bp A C at_ st (at_) 4 _ _ _ (by first | exact hN.out.ps | exact hN.out.ps) (by omega) (by omega) (by omega) rfl (by omega) (by omega)).mono ?_;rintro e w1 ⟨rfl,nq,rfl⟩;rw [Ht4.out])
   | (go_at_call 20;refine (peek_p D bp A C at_ st (at_+4) _ _ (by first | exact hN.out.ps | exact hN.out.ps.drewN _) (by omega) (by omega) (by omega) (by omega)).mono ?_;rintro e w1 ⟨rfl,nq,rfl⟩))
  all_goals (go_meet;refine ⟨congrArg Value.bool ?_,_,rfl⟩;(first | (symm;rw [decide_eq_true_iff];(try simp only [beq_iff_eq,beq_eq_false_iff_ne,bne_iff_ne,bne_eq_false_iff_eq] at *);omega) | (symm;rw [decide_eq_false_iff_not];(try simp only [beq_iff_eq,beq_eq_false_iff_ne,bne_iff_ne,bne_eq_false_iff_eq] at *);omega) | (rw [Bool.eq_iff_iff];simp <;> omega)))
 case rest =>
  obtain ⟨hc,nq,rfl⟩:=hcut;by_cases hP1:0<=t4/\D.c (at_+4)=45
  ·rw [qqt hP1] at hc;subst hc;exact absurd ⟨H40.out hP1.1,hP1.2⟩ HX1.out
  ·rw [qqf hP1] at hc;subst hc;have hn1:Hid (¬ (0<=twoRun D at_ 0 4/\D.c (at_+4)=45)):=(by show ¬ _;rw [Ht4.out];exact hP1);go_upto_region 3 with fail;go_cut [33] (fun c wx => c=.bool (decide (0<=t2/\D.c (at_+2)=58))/\∃ n,wx=((w.alloc (.cells #[.int .i64 0,.string ⟨#[]⟩,.slice none 0 0,.slice none 0 0] 43)).drewN n))
   case first =>
    go_wp2_with (first
     | (go_at_call 71;refine (two_p D bp A C at_ st (at_) 2 _ _ _ (by first | exact hN.out.ps | exact hN.out.ps.drewN _) (by omega) (by omega) (by omega) rfl (by omega) (by omega)).mono ?_;rintro e w1 ⟨rfl,nq,rfl⟩;rw [Ht2.out])
     | (go_at_call 20;refine (peek_p D bp A C at_ st (at_+2) _ _ (by first | exact hN.out.ps | exact hN.out.ps.drewN _) (by omega) (by omega) (by omega) (by omega)).mono ?_;rintro e w1 ⟨rfl,nq,rfl⟩))
    all_goals (go_meet;refine ⟨congrArg Value.bool ?_,_,rfl⟩;(first | (symm;rw [decide_eq_true_iff];(try simp only [beq_iff_eq,beq_eq_false_iff_ne,bne_iff_ne,bne_eq_false_iff_eq] at *);omega) | (symm;rw [decide_eq_false_iff_not];(try simp only [beq_iff_eq,beq_eq_false_iff_ne,bne_iff_ne,bne_eq_false_iff_eq] at *);omega) | (rw [Bool.eq_iff_iff];simp <;> omega)))
   case rest =>
    obtain ⟨hc,nq,rfl⟩:=hcut;by_cases hP3:0<=t2/\D.c (at_+2)=58
    ·rw [qqt hP3] at hc;subst hc;have hf0:Hid (numP D at_=timN D at_):=(by show _=_;rw [HE.out,if_neg hn1.out,if_pos (by rw [Ht2.out];exact hP3)]);go_wp2_with fail
     refine (clock_c D bp A C at_ st at_ _ _ (by exact hN.out.ps.drewN _) (by omega) (by omega) (by omega) (by omega)).mono ?_;rintro e w1 ⟨rfl,nqk,rfl⟩;rw [HtK.out,HtB.out];by_cases hPK:tK=0
     ·have eK:((tK:Int) == 0)=true:=(by rw [beq_iff_eq];omega);have hf:Hid (numP D at_=.opn):=by
       show _=_;have hb:clkB D at_=false:=(by unfold clkB;rw [HtK.out,hPK];rfl);rw [hf0.out,timN,if_pos hb]
      go_wp2_with fail
      refine (open_c D bp A C at_ st _ (by first | exact hN.out.ps | exact hN.out.ps.drewN _)).mono ?_;rintro e w1 ⟨rfl,hp1,hk1⟩;have hM:=qqh (NS.call (D:=D) (A:=A) (C:=C) (w0:=w) (R:=w.heap.size) (xs:=[.int .i64 0,.string ⟨#[]⟩,.slice none 0 0,.slice none 0 0]) (t:=43) (at_:=at_) (st:=st) (by first | exact hN.out | exact hN.out.drewN _) hp1 hk1);have b0:=hM.out.blk.cell 0 rfl;have b1:=hM.out.blk.cell 1 rfl;have b2:=hM.out.blk.cell 2 rfl;have b3:=hM.out.blk.cell 3 rfl;have g0:=hM.out.blk.free 0;have g1:=hM.out.blk.free 1;have g2:=hM.out.blk.free 2;have g3:=hM.out.blk.free 3;clear hp1 hk1;go_wp2_with fail
      have h:=NS.put (NS.put (NS.put (NS.put hM.out 0 (.int .i64 0)) 1 (.string ⟨#[]⟩)) 2 (.slice none 0 0)) 3 (.slice none 0 0);refine bodyPost_ret (v:=.agg #[.int .i64 0,.string ⟨#[]⟩,.slice none 0 0,.slice none 0 0]) (by simp [results,Tryz.results50,go_sem,b0,b1,b2,b3]) rfl ⟨⟨_,rfl,?_⟩,?_,?_⟩
      ·rw [hf.out];exact ⟨0,[],rfl⟩
      ·rw [hf.out];exact h.ps
      ·exact h.kp
     ·have eK:((tK:Int) == 0)=false:=qqn (by omega);by_cases hPB:tB=false
      ·have eB:tB=false:=hPB;have hf:Hid (numP D at_=.opn):=by
        show _=_;rw [hf0.out,timN,if_pos (by rw [HtB.out];exact hPB)]
       go_wp2_with fail
       refine (open_c D bp A C at_ st _ (by first | exact hN.out.ps | exact hN.out.ps.drewN _)).mono ?_;rintro e w1 ⟨rfl,hp1,hk1⟩;have hM:=qqh (NS.call (D:=D) (A:=A) (C:=C) (w0:=w) (R:=w.heap.size) (xs:=[.int .i64 0,.string ⟨#[]⟩,.slice none 0 0,.slice none 0 0]) (t:=43) (at_:=at_) (st:=st) (by first | exact hN.out | exact hN.out.drewN _) hp1 hk1);have b0:=hM.out.blk.cell 0 rfl;have b1:=hM.out.blk.cell 1 rfl;have b2:=hM.out.blk.cell 2 rfl;have b3:=hM.out.blk.cell 3 rfl;have g0:=hM.out.blk.free 0;have g1:=hM.out.blk.free 1;have g2:=hM.out.blk.free 2;have g3:=hM.out.blk.free 3;clear hp1 hk1;go_wp2_with fail
       have h:=NS.put (NS.put (NS.put (NS.put hM.out 0 (.int .i64 0)) 1 (.string ⟨#[]⟩)) 2 (.slice none 0 0)) 3 (.slice none 0 0);refine bodyPost_ret (v:=.agg #[.int .i64 0,.string ⟨#[]⟩,.slice none 0 0,.slice none 0 0]) (by simp [results,Tryz.results50,go_sem,b0,b1,b2,b3]) rfl ⟨⟨_,rfl,?_⟩,?_,?_⟩
       ·rw [hf.out];exact ⟨0,[],rfl⟩
       ·rw [hf.out];exact h.ps
       ·exact h.kp
      ·have eB:tB=true:=(by simpa using hPB);have hf:Hid (numP D at_=dtd D (.good (7,D.sub at_ tK) (at_+tK))):=by
        show _=_;rw [hf0.out,timN,if_neg (by rw [HtB.out];exact hPB),HtK.out]
       go_wp2_with fail
       refine (raw_c D bp A C at_ st _ _ _ (by first | exact hN.out.ps | exact hN.out.ps.drewN _) (by omega) (by omega) (by omega) (by omega)).mono ?_;rintro e w1 ⟨rfl,hp1,hk1⟩;rw [int_nat (n:=tK) (by omega)] at hp1 ⊢;have hM0:=qqh (NS.call (hN.out.drewN _) hp1 hk1);have hK1:=qqh hk1;clear hp1 hk1;have hlf:LeafOk (.good (7,D.sub at_ tK) (at_+tK)) (.agg #[.int .i64 7,.string ⟨(D.sub at_ tK).toArray⟩,.slice none 0 0,.slice none 0 0]):=rfl;obtain ⟨l,hl0⟩:∃ l,D.sub at_ tK=l:=⟨_,rfl⟩;rw [hl0] at hlf hf ⊢;clear hl0;have HLF:=qqh hlf;clear hlf;go_wp2_with fail
       refine (dated_c D bp A C _ _ 7 l _ (by exact hM0.out.ps) (by omega) (fun a ha => by have:=HA1.out a ha;have:=hK1.out.size;simp at *;omega)).mono ?_;rintro e w2 ⟨rfl,hp2,hk2⟩;have hM:=qqh (NS.call hM0.out hp2 hk2);obtain ⟨S,hS⟩:∃ S:ByteArray,(⟨l.toArray⟩:ByteArray)=S:=⟨_,rfl⟩;unfold leafV;rw [hS];have HS:=qqh hS;have b0:=hM.out.blk.cell 0 rfl;have b1:=hM.out.blk.cell 1 rfl;have b2:=hM.out.blk.cell 2 rfl;have b3:=hM.out.blk.cell 3 rfl;have g0:=hM.out.blk.free 0;have g1:=hM.out.blk.free 1;have g2:=hM.out.blk.free 2;have g3:=hM.out.blk.free 3;clear hp2 hk2 hS;go_wp2_with fail
       have h:=NS.put (NS.put (NS.put (NS.put hM.out 0 (.int .i64 7)) 1 (.string S)) 2 (.slice none 0 0)) 3 (.slice none 0 0);refine bodyPost_ret (v:=.agg #[.int .i64 7,.string S,.slice none 0 0,.slice none 0 0]) (by simp [results,Tryz.results50,go_sem,b0,b1,b2,b3]) rfl ⟨⟨_,rfl,?_⟩,?_,?_⟩
       ·rw [hf.out];have hl:=dtd_leaf D _ _ HLF.out;rw [<- HS.out];exact hl
       ·rw [hf.out,dtd_pos,dtd_st];exact h.ps
       ·exact h.kp
    ·rw [qqf hP3] at hc;subst hc;exact absurd (by rw [<- Ht2.out];exact HX3.out) hP3
theorem number_b0 (D:Doc) (bp:Nat) (A:Option Addr) (C:Nat) (at_ st:Nat) (w:World) (hp:PS D bp A C w at_ st) (hat:at_<=D.n) (hA:∀ a,A=some a->a.block<w.heap.size) (HX1:Hid (¬ (0<=twoRun D at_ 0 4/\D.c (at_+4)=45))) (HX3:Hid (¬ (0<=twoRun D at_ 0 2/\D.c (at_+2)=58))) (HB0:Hid (hasB D at_ [48,120]=true)) :
  Calls Tryz.prog 50 #[.pointer (some ⟨bp,0,none⟩)] w fun e w' => (∃ v,e=.returned v/\LeafOk (numP D at_) v)/\PS D bp A C w' ((numP D at_).pos D) ((numP D at_).st st)/\Kp (Only bp) w w':=by
 have hs:=D.small;have hlt:=hp.blk.lt;have hN:=qqh (NS.start hp hA w.heap.size rfl [.int .i64 0,.string ⟨#[]⟩,.slice none 0 0,.slice none 0 0] 43);have hA1:∀ a,A=some a->a.block<(w.alloc (.cells #[.int .i64 0,.string ⟨#[]⟩,.slice none 0 0,.slice none 0 0] 43)).heap.size:=fun a ha => by have:=hA a ha;simp;omega
 have HA1:=qqh hA1;clear hp hA hA1;have hck:=clkN_in D at_;have hdn:=datN_in D at_ hat;have HE:Hid (numP D at_=if 0<=twoRun D at_ 0 4/\D.c (at_+4)=45 then dtd D (dat D at_) else if 0<=twoRun D at_ 0 2/\D.c (at_+2)=58 then timN D at_ else if hasB D at_ [48,120]=true then baseN D at_ 16
  else if hasB D at_ [48,111]=true then baseN D at_ 8 else if hasB D at_ [48,98]=true then baseN D at_ 2 else infN D at_ (sgnN D at_)):=rfl
 obtain ⟨t4,ht⟩:∃ t,twoRun D at_ 0 4=t:=⟨_,rfl⟩;have Ht4:=qqh ht;have h40:0<=t4->0<=twoRun D at_ 0 4:=fun h => by rw [ht];exact h
 have H40:=qqh h40;clear ht h40;obtain ⟨t2,ht⟩:∃ t,twoRun D at_ 0 2=t:=⟨_,rfl⟩;have Ht2:=qqh ht;clear ht;obtain ⟨tK,ht⟩:∃ t,clkN D at_=t:=⟨_,rfl⟩;rw [ht] at hck;have HtK:=qqh ht;clear ht;obtain ⟨tB,ht⟩:∃ t,clkB D at_=t:=⟨_,rfl⟩;have HtB:=qqh ht;clear ht;go_enter Tryz.func50,Tryz.ntmps50;go_upto_region 1 with fail;go_cut [21] (fun c wx => c=.bool (decide (0<=t4/\D.c (at_+4)=45))/\∃ n,wx=((w.alloc (.cells #[.int .i64 0,.string ⟨#[]⟩,.slice none 0 0,.slice none 0 0] 43)).drewN n))
 case first =>
  go_wp2_with (first
   | (go_at_call 71;refine (two_p D bp A C at_ st (at_) 4 _ _ _ (by first | exact hN.out.ps | exact hN.out.ps) (by omega) (by omega) (by omega) rfl (by omega) (by omega)).mono ?_;rintro e w1 ⟨rfl,nq,rfl⟩;rw [Ht4.out])
   | (go_at_call 20;refine (peek_p D bp A C at_ st (at_+4) _ _ (by first | exact hN.out.ps | exact hN.out.ps.drewN _) (by omega) (by omega) (by omega) (by omega)).mono ?_;rintro e w1 ⟨rfl,nq,rfl⟩))
  all_goals (go_meet;refine ⟨congrArg Value.bool ?_,_,rfl⟩;(first | (symm;rw [decide_eq_true_iff];(try simp only [beq_iff_eq,beq_eq_false_iff_ne,bne_iff_ne,bne_eq_false_iff_eq] at *);omega) | (symm;rw [decide_eq_false_iff_not];(try simp only [beq_iff_eq,beq_eq_false_iff_ne,bne_iff_ne,bne_eq_false_iff_eq] at *);omega) | (rw [Bool.eq_iff_iff];simp <;> omega)))
 case rest =>
  obtain ⟨hc,nq,rfl⟩:=hcut;by_cases hP1:0<=t4/\D.c (at_+4)=45
  ·rw [qqt hP1] at hc;subst hc;exact absurd ⟨H40.out hP1.1,hP1.2⟩ HX1.out
  ·rw [qqf hP1] at hc;subst hc;have hn1:Hid (¬ (0<=twoRun D at_ 0 4/\D.c (at_+4)=45)):=(by show ¬ _;rw [Ht4.out];exact hP1);go_upto_region 3 with fail;go_cut [33] (fun c wx => c=.bool (decide (0<=t2/\D.c (at_+2)=58))/\∃ n,wx=((w.alloc (.cells #[.int .i64 0,.string ⟨#[]⟩,.slice none 0 0,.slice none 0 0] 43)).drewN n))
   case first =>
    go_wp2_with (first
     | (go_at_call 71;refine (two_p D bp A C at_ st (at_) 2 _ _ _ (by first | exact hN.out.ps | exact hN.out.ps.drewN _) (by omega) (by omega) (by omega) rfl (by omega) (by omega)).mono ?_;rintro e w1 ⟨rfl,nq,rfl⟩;rw [Ht2.out])
     | (go_at_call 20;refine (peek_p D bp A C at_ st (at_+2) _ _ (by first | exact hN.out.ps | exact hN.out.ps.drewN _) (by omega) (by omega) (by omega) (by omega)).mono ?_;rintro e w1 ⟨rfl,nq,rfl⟩))
    all_goals (go_meet;refine ⟨congrArg Value.bool ?_,_,rfl⟩;(first | (symm;rw [decide_eq_true_iff];(try simp only [beq_iff_eq,beq_eq_false_iff_ne,bne_iff_ne,bne_eq_false_iff_eq] at *);omega) | (symm;rw [decide_eq_false_iff_not];(try simp only [beq_iff_eq,beq_eq_false_iff_ne,bne_iff_ne,bne_eq_false_iff_eq] at *);omega) | (rw [Bool.eq_iff_iff];simp <;> omega)))
   case rest =>
    obtain ⟨hc,nq,rfl⟩:=hcut;by_cases hP3:0<=t2/\D.c (at_+2)=58
    ·rw [qqt hP3] at hc;subst hc;exact absurd (by rw [Ht2.out];exact hP3) HX3.out
    ·rw [qqf hP3] at hc;subst hc;have hn3:Hid (¬ (0<=twoRun D at_ 0 2/\D.c (at_+2)=58)):=(by show ¬ _;rw [Ht2.out];exact hP3);go_wp2_with fail
     refine wp_at (fun W => (W.cell? ⟨w.heap.size+1,0,none⟩=some (.string ⟨#[48,120]⟩)/\W.cell? ⟨w.heap.size+1,1,none⟩=some (.string ⟨#[48,111]⟩)/\W.cell? ⟨w.heap.size+1,2,none⟩=some (.string ⟨#[48,98]⟩))
      /\ Hid (NS D bp A C w w.heap.size [.int .i64 0,.string ⟨#[]⟩,.slice none 0 0,.slice none 0 0] 43 W at_ st)) ⟨?_,NS.alloc (NS.drewN hN.out _) _⟩ ?_
     ·refine ⟨?_,?_,?_⟩ <;> (rw [cell_new (by simp)];rfl)
     rintro W ⟨⟨z0,z1,z2⟩,hNW⟩;have hin0:=hasB_in HB0.out;simp only [List.length_cons,List.length_nil] at hin0;have hgl:=grp_le D 16 (at_+2);obtain ⟨tG,ht⟩:∃ t,grp D 16 (at_+2)=t:=⟨_,rfl⟩;rw [ht] at hgl;have HG:=qqh ht;clear ht;refine wp_loop_rounds 4 ?_;rw [rounds_succ];go_wp2_with fail
     refine (has_c D bp A C at_ st [48,120] _ (by first | exact hNW.out.ps | exact hNW.out.ps.drewN _) (by omega) (by simp) (by simp)).mono ?_;rintro e w2 ⟨rfl,nq0,rfl⟩;rw [HB0.out];have zz:∀ n,((W.drewN n).alloc (.cells #[.int .i64 16,.int .i64 8,.int .i64 2] 3)).cell? ⟨W.heap.size,0,none⟩=some (.int .i64 16):=fun n => by rw [cell_new (by simp)];rfl
     go_wp2_with fail
     clear zz;have hN2:=qqh (NS.alloc (NS.drewN hNW.out (nq0)) (.cells #[.int .i64 16,.int .i64 8,.int .i64 2] 3));refine (grouped_p D bp A C at_ st (at_+2) 16 _ _ _ (by exact hN2.out.ps) (by omega) (by omega) (by omega) rfl (by omega) (by omega)).mono ?_;rintro e w2 ⟨rfl,nqg,rfl⟩;rw [HG.out];by_cases hPG:tG=0
     ·have eG:((tG:Int) == 0)=true:=(by rw [beq_iff_eq];omega);have hf:Hid (numP D at_=.bad):=by
       show _=_;rw [HE.out,if_neg hn1.out,if_neg hn3.out,if_pos HB0.out,baseN,if_pos (by rw [HG.out];exact hPG)]
      go_wp2_with fail
      refine (fail_c D bp A C at_ st _ (by first | exact hN2.out.ps | exact hN2.out.ps.drewN _)).mono ?_;rintro e w1 ⟨rfl,hp1,hk1⟩;have hM:=qqh (NS.call (D:=D) (A:=A) (C:=C) (w0:=w) (R:=w.heap.size) (xs:=[.int .i64 0,.string ⟨#[]⟩,.slice none 0 0,.slice none 0 0]) (t:=43) (at_:=at_) (st:=st) (by first | exact hN2.out | exact hN2.out.drewN _) hp1 hk1);have b0:=hM.out.blk.cell 0 rfl;have b1:=hM.out.blk.cell 1 rfl;have b2:=hM.out.blk.cell 2 rfl;have b3:=hM.out.blk.cell 3 rfl;have g0:=hM.out.blk.free 0;have g1:=hM.out.blk.free 1;have g2:=hM.out.blk.free 2;have g3:=hM.out.blk.free 3;clear hp1 hk1;go_wp2_with fail
      have h:=NS.put (NS.put (NS.put (NS.put hM.out 0 (.int .i64 0)) 1 (.string ⟨#[]⟩)) 2 (.slice none 0 0)) 3 (.slice none 0 0);refine bodyPost_ret (v:=.agg #[.int .i64 0,.string ⟨#[]⟩,.slice none 0 0,.slice none 0 0]) (by simp [results,Tryz.results50,go_sem,b0,b1,b2,b3]) rfl ⟨⟨_,rfl,?_⟩,?_,?_⟩
      ·rw [hf.out];exact ⟨0,[],rfl⟩
      ·rw [hf.out];exact h.ps
      ·exact h.kp
     ·have eG:((tG:Int) == 0)=false:=qqn (by omega);have hf:Hid (numP D at_=.good (1,D.sub at_ (2+tG)) (at_+(2+tG))):=by
       show _=_;rw [HE.out,if_neg hn1.out,if_neg hn3.out,if_pos HB0.out,baseN,if_neg (by rw [HG.out];exact hPG),HG.out]
      go_wp2_with fail
      refine (raw_c D bp A C at_ st _ _ _ (by first | exact hN2.out.ps | exact hN2.out.ps.drewN _) (by omega) (by omega) (by omega) (by omega)).mono ?_;rintro e w1 ⟨rfl,hp1,hk1⟩;rw [int_nat (n:=2+tG) (by omega)] at hp1 ⊢;have hM:=qqh (NS.call (D:=D) (A:=A) (C:=C) (w0:=w) (R:=w.heap.size) (xs:=[.int .i64 0,.string ⟨#[]⟩,.slice none 0 0,.slice none 0 0]) (t:=43) (at_:=at_) (st:=st) (by first | exact hN2.out | exact hN2.out.drewN _) hp1 hk1);obtain ⟨S,hS⟩:∃ S:ByteArray,(⟨(D.sub at_ (2+tG)).toArray⟩:ByteArray)=S:=⟨_,rfl⟩;rw [hS];have HS:=qqh hS;have b0:=hM.out.blk.cell 0 rfl;have b1:=hM.out.blk.cell 1 rfl;have b2:=hM.out.blk.cell 2 rfl;have b3:=hM.out.blk.cell 3 rfl;have g0:=hM.out.blk.free 0;have g1:=hM.out.blk.free 1;have g2:=hM.out.blk.free 2;have g3:=hM.out.blk.free 3;clear hp1 hk1 hS;go_wp2_with fail
      have h:=NS.put (NS.put (NS.put (NS.put hM.out 0 (.int .i64 1)) 1 (.string S)) 2 (.slice none 0 0)) 3 (.slice none 0 0);refine bodyPost_ret (v:=.agg #[.int .i64 1,.string S,.slice none 0 0,.slice none 0 0]) (by simp [results,Tryz.results50,go_sem,b0,b1,b2,b3]) rfl ⟨⟨_,rfl,?_⟩,?_,?_⟩
      ·rw [hf.out];show _=leafV _ _;unfold leafV;rw [HS.out];rfl
      ·rw [hf.out];exact h.ps
      ·exact h.kp
theorem number_b1 (D:Doc) (bp:Nat) (A:Option Addr) (C:Nat) (at_ st:Nat) (w:World) (hp:PS D bp A C w at_ st) (hat:at_<=D.n) (hA:∀ a,A=some a->a.block<w.heap.size) (HX1:Hid (¬ (0<=twoRun D at_ 0 4/\D.c (at_+4)=45))) (HX3:Hid (¬ (0<=twoRun D at_ 0 2/\D.c (at_+2)=58))) (HB0:Hid (hasB D at_ [48,120]=false)) (HB1:Hid (hasB D at_ [48,111]=true)) :
  Calls Tryz.prog 50 #[.pointer (some ⟨bp,0,none⟩)] w fun e w' => (∃ v,e=.returned v/\LeafOk (numP D at_) v)/\PS D bp A C w' ((numP D at_).pos D) ((numP D at_).st st)/\Kp (Only bp) w w':=by
 have hs:=D.small;have hlt:=hp.blk.lt;have hN:=qqh (NS.start hp hA w.heap.size rfl [.int .i64 0,.string ⟨#[]⟩,.slice none 0 0,.slice none 0 0] 43);have hA1:∀ a,A=some a->a.block<(w.alloc (.cells #[.int .i64 0,.string ⟨#[]⟩,.slice none 0 0,.slice none 0 0] 43)).heap.size:=fun a ha => by have:=hA a ha;simp;omega
 have HA1:=qqh hA1;clear hp hA hA1;have hck:=clkN_in D at_;have hdn:=datN_in D at_ hat;have HE:Hid (numP D at_=if 0<=twoRun D at_ 0 4/\D.c (at_+4)=45 then dtd D (dat D at_) else if 0<=twoRun D at_ 0 2/\D.c (at_+2)=58 then timN D at_ else if hasB D at_ [48,120]=true then baseN D at_ 16
  else if hasB D at_ [48,111]=true then baseN D at_ 8 else if hasB D at_ [48,98]=true then baseN D at_ 2 else infN D at_ (sgnN D at_)):=rfl
 obtain ⟨t4,ht⟩:∃ t,twoRun D at_ 0 4=t:=⟨_,rfl⟩;have Ht4:=qqh ht;have h40:0<=t4->0<=twoRun D at_ 0 4:=fun h => by rw [ht];exact h
 have H40:=qqh h40;clear ht h40;obtain ⟨t2,ht⟩:∃ t,twoRun D at_ 0 2=t:=⟨_,rfl⟩;have Ht2:=qqh ht;clear ht;obtain ⟨tK,ht⟩:∃ t,clkN D at_=t:=⟨_,rfl⟩;rw [ht] at hck;have HtK:=qqh ht;clear ht;obtain ⟨tB,ht⟩:∃ t,clkB D at_=t:=⟨_,rfl⟩;have HtB:=qqh ht;clear ht;go_enter Tryz.func50,Tryz.ntmps50;go_upto_region 1 with fail;go_cut [21] (fun c wx => c=.bool (decide (0<=t4/\D.c (at_+4)=45))/\∃ n,wx=((w.alloc (.cells #[.int .i64 0,.string ⟨#[]⟩,.slice none 0 0,.slice none 0 0] 43)).drewN n))
 case first =>
  go_wp2_with (first
   | (go_at_call 71;refine (two_p D bp A C at_ st (at_) 4 _ _ _ (by first | exact hN.out.ps | exact hN.out.ps) (by omega) (by omega) (by omega) rfl (by omega) (by omega)).mono ?_;rintro e w1 ⟨rfl,nq,rfl⟩;rw [Ht4.out])
   | (go_at_call 20;refine (peek_p D bp A C at_ st (at_+4) _ _ (by first | exact hN.out.ps | exact hN.out.ps.drewN _) (by omega) (by omega) (by omega) (by omega)).mono ?_;rintro e w1 ⟨rfl,nq,rfl⟩))
  all_goals (go_meet;refine ⟨congrArg Value.bool ?_,_,rfl⟩;(first | (symm;rw [decide_eq_true_iff];(try simp only [beq_iff_eq,beq_eq_false_iff_ne,bne_iff_ne,bne_eq_false_iff_eq] at *);omega) | (symm;rw [decide_eq_false_iff_not];(try simp only [beq_iff_eq,beq_eq_false_iff_ne,bne_iff_ne,bne_eq_false_iff_eq] at *);omega) | (rw [Bool.eq_iff_iff];simp <;> omega)))
 case rest =>
  obtain ⟨hc,nq,rfl⟩:=hcut;by_cases hP1:0<=t4/\D.c (at_+4)=45
  ·rw [qqt hP1] at hc;subst hc;exact absurd ⟨H40.out hP1.1,hP1.2⟩ HX1.out
  ·rw [qqf hP1] at hc;subst hc;have hn1:Hid (¬ (0<=twoRun D at_ 0 4/\D.c (at_+4)=45)):=(by show ¬ _;rw [Ht4.out];exact hP1);go_upto_region 3 with fail;go_cut [33] (fun c wx => c=.bool (decide (0<=t2/\D.c (at_+2)=58))/\∃ n,wx=((w.alloc (.cells #[.int .i64 0,.string ⟨#[]⟩,.slice none 0 0,.slice none 0 0] 43)).drewN n))
   case first =>
    go_wp2_with (first
     | (go_at_call 71;refine (two_p D bp A C at_ st (at_) 2 _ _ _ (by first | exact hN.out.ps | exact hN.out.ps.drewN _) (by omega) (by omega) (by omega) rfl (by omega) (by omega)).mono ?_;rintro e w1 ⟨rfl,nq,rfl⟩;rw [Ht2.out])
     | (go_at_call 20;refine (peek_p D bp A C at_ st (at_+2) _ _ (by first | exact hN.out.ps | exact hN.out.ps.drewN _) (by omega) (by omega) (by omega) (by omega)).mono ?_;rintro e w1 ⟨rfl,nq,rfl⟩))
    all_goals (go_meet;refine ⟨congrArg Value.bool ?_,_,rfl⟩;(first | (symm;rw [decide_eq_true_iff];(try simp only [beq_iff_eq,beq_eq_false_iff_ne,bne_iff_ne,bne_eq_false_iff_eq] at *);omega) | (symm;rw [decide_eq_false_iff_not];(try simp only [beq_iff_eq,beq_eq_false_iff_ne,bne_iff_ne,bne_eq_false_iff_eq] at *);omega) | (rw [Bool.eq_iff_iff];simp <;> omega)))
   case rest =>
    obtain ⟨hc,nq,rfl⟩:=hcut;by_cases hP3:0<=t2/\D.c (at_+2)=58
    ·rw [qqt hP3] at hc;subst hc;exact absurd (by rw [Ht2.out];exact hP3) HX3.out
    ·rw [qqf hP3] at hc;subst hc;have hn3:Hid (¬ (0<=twoRun D at_ 0 2/\D.c (at_+2)=58)):=(by show ¬ _;rw [Ht2.out];exact hP3);go_wp2_with fail
     refine wp_at (fun W => (W.cell? ⟨w.heap.size+1,0,none⟩=some (.string ⟨#[48,120]⟩)/\W.cell? ⟨w.heap.size+1,1,none⟩=some (.string ⟨#[48,111]⟩)/\W.cell? ⟨w.heap.size+1,2,none⟩=some (.string ⟨#[48,98]⟩))
      /\ Hid (NS D bp A C w w.heap.size [.int .i64 0,.string ⟨#[]⟩,.slice none 0 0,.slice none 0 0] 43 W at_ st)) ⟨?_,NS.alloc (NS.drewN hN.out _) _⟩ ?_
     ·refine ⟨?_,?_,?_⟩ <;> (rw [cell_new (by simp)];rfl)
     rintro W ⟨⟨z0,z1,z2⟩,hNW⟩;have hin0:=hasB_in HB1.out;simp only [List.length_cons,List.length_nil] at hin0;have hgl:=grp_le D 8 (at_+2);obtain ⟨tG,ht⟩:∃ t,grp D 8 (at_+2)=t:=⟨_,rfl⟩;rw [ht] at hgl;have HG:=qqh ht;clear ht;refine wp_loop_rounds 4 ?_;rw [rounds_succ];go_wp2_with fail
     refine (has_c D bp A C at_ st [48,120] _ (by first | exact hNW.out.ps | exact hNW.out.ps.drewN _) (by omega) (by simp) (by simp)).mono ?_;rintro e w2 ⟨rfl,nq0,rfl⟩;rw [HB0.out];go_wp2_with fail
     rw [rounds_succ];go_wp2_with fail
     refine (has_c D bp A C at_ st [48,111] _ (by first | exact hNW.out.ps | exact hNW.out.ps.drewN _) (by omega) (by simp) (by simp)).mono ?_;rintro e w2 ⟨rfl,nq1,rfl⟩;rw [HB1.out];have zz:∀ n,((W.drewN n).alloc (.cells #[.int .i64 16,.int .i64 8,.int .i64 2] 3)).cell? ⟨W.heap.size,1,none⟩=some (.int .i64 8):=fun n => by rw [cell_new (by simp)];rfl
     go_wp2_with fail
     clear zz;have hN2:=qqh (NS.alloc (NS.drewN hNW.out (nq0+nq1)) (.cells #[.int .i64 16,.int .i64 8,.int .i64 2] 3));refine (grouped_p D bp A C at_ st (at_+2) 8 _ _ _ (by exact hN2.out.ps) (by omega) (by omega) (by omega) rfl (by omega) (by omega)).mono ?_;rintro e w2 ⟨rfl,nqg,rfl⟩;rw [HG.out];by_cases hPG:tG=0
     ·have eG:((tG:Int) == 0)=true:=(by rw [beq_iff_eq];omega);have hf:Hid (numP D at_=.bad):=by
       show _=_;rw [HE.out,if_neg hn1.out,if_neg hn3.out,if_neg (by rw [HB0.out];simp),if_pos HB1.out,baseN,if_pos (by rw [HG.out];exact hPG)]
      go_wp2_with fail
      refine (fail_c D bp A C at_ st _ (by first | exact hN2.out.ps | exact hN2.out.ps.drewN _)).mono ?_;rintro e w1 ⟨rfl,hp1,hk1⟩;have hM:=qqh (NS.call (D:=D) (A:=A) (C:=C) (w0:=w) (R:=w.heap.size) (xs:=[.int .i64 0,.string ⟨#[]⟩,.slice none 0 0,.slice none 0 0]) (t:=43) (at_:=at_) (st:=st) (by first | exact hN2.out | exact hN2.out.drewN _) hp1 hk1);have b0:=hM.out.blk.cell 0 rfl;have b1:=hM.out.blk.cell 1 rfl;have b2:=hM.out.blk.cell 2 rfl;have b3:=hM.out.blk.cell 3 rfl;have g0:=hM.out.blk.free 0;have g1:=hM.out.blk.free 1;have g2:=hM.out.blk.free 2;have g3:=hM.out.blk.free 3;clear hp1 hk1;go_wp2_with fail
      have h:=NS.put (NS.put (NS.put (NS.put hM.out 0 (.int .i64 0)) 1 (.string ⟨#[]⟩)) 2 (.slice none 0 0)) 3 (.slice none 0 0);refine bodyPost_ret (v:=.agg #[.int .i64 0,.string ⟨#[]⟩,.slice none 0 0,.slice none 0 0]) (by simp [results,Tryz.results50,go_sem,b0,b1,b2,b3]) rfl ⟨⟨_,rfl,?_⟩,?_,?_⟩
      ·rw [hf.out];exact ⟨0,[],rfl⟩
      ·rw [hf.out];exact h.ps
      ·exact h.kp
     ·have eG:((tG:Int) == 0)=false:=qqn (by omega);have hf:Hid (numP D at_=.good (1,D.sub at_ (2+tG)) (at_+(2+tG))):=by
       show _=_;rw [HE.out,if_neg hn1.out,if_neg hn3.out,if_neg (by rw [HB0.out];simp),if_pos HB1.out,baseN,if_neg (by rw [HG.out];exact hPG),HG.out]
      go_wp2_with fail
      refine (raw_c D bp A C at_ st _ _ _ (by first | exact hN2.out.ps | exact hN2.out.ps.drewN _) (by omega) (by omega) (by omega) (by omega)).mono ?_;rintro e w1 ⟨rfl,hp1,hk1⟩;rw [int_nat (n:=2+tG) (by omega)] at hp1 ⊢;have hM:=qqh (NS.call (D:=D) (A:=A) (C:=C) (w0:=w) (R:=w.heap.size) (xs:=[.int .i64 0,.string ⟨#[]⟩,.slice none 0 0,.slice none 0 0]) (t:=43) (at_:=at_) (st:=st) (by first | exact hN2.out | exact hN2.out.drewN _) hp1 hk1);obtain ⟨S,hS⟩:∃ S:ByteArray,(⟨(D.sub at_ (2+tG)).toArray⟩:ByteArray)=S:=⟨_,rfl⟩;rw [hS];have HS:=qqh hS;have b0:=hM.out.blk.cell 0 rfl;have b1:=hM.out.blk.cell 1 rfl;have b2:=hM.out.blk.cell 2 rfl;have b3:=hM.out.blk.cell 3 rfl;have g0:=hM.out.blk.free 0;have g1:=hM.out.blk.free 1;have g2:=hM.out.blk.free 2;have g3:=hM.out.blk.free 3;clear hp1 hk1 hS;go_wp2_with fail
      have h:=NS.put (NS.put (NS.put (NS.put hM.out 0 (.int .i64 1)) 1 (.string S)) 2 (.slice none 0 0)) 3 (.slice none 0 0);refine bodyPost_ret (v:=.agg #[.int .i64 1,.string S,.slice none 0 0,.slice none 0 0]) (by simp [results,Tryz.results50,go_sem,b0,b1,b2,b3]) rfl ⟨⟨_,rfl,?_⟩,?_,?_⟩
      ·rw [hf.out];show _=leafV _ _;unfold leafV;rw [HS.out];rfl
      ·rw [hf.out];exact h.ps
      ·exact h.kp
theorem number_b2 (D:Doc) (bp:Nat) (A:Option Addr) (C:Nat) (at_ st:Nat) (w:World) (hp:PS D bp A C w at_ st) (hat:at_<=D.n) (hA:∀ a,A=some a->a.block<w.heap.size) (HX1:Hid (¬ (0<=twoRun D at_ 0 4/\D.c (at_+4)=45))) (HX3:Hid (¬ (0<=twoRun D at_ 0 2/\D.c (at_+2)=58))) (HB0:Hid (hasB D at_ [48,120]=false)) (HB1:Hid (hasB D at_ [48,111]=false)) (HB2:Hid (hasB D at_ [48,98]=true)) :
  Calls Tryz.prog 50 #[.pointer (some ⟨bp,0,none⟩)] w fun e w' => (∃ v,e=.returned v/\LeafOk (numP D at_) v)/\PS D bp A C w' ((numP D at_).pos D) ((numP D at_).st st)/\Kp (Only bp) w w':=by
 have hs:=D.small;have hlt:=hp.blk.lt;have hN:=qqh (NS.start hp hA w.heap.size rfl [.int .i64 0,.string ⟨#[]⟩,.slice none 0 0,.slice none 0 0] 43);have hA1:∀ a,A=some a->a.block<(w.alloc (.cells #[.int .i64 0,.string ⟨#[]⟩,.slice none 0 0,.slice none 0 0] 43)).heap.size:=fun a ha => by have:=hA a ha;simp;omega
 have HA1:=qqh hA1;clear hp hA hA1;have hck:=clkN_in D at_;have hdn:=datN_in D at_ hat;have HE:Hid (numP D at_=if 0<=twoRun D at_ 0 4/\D.c (at_+4)=45 then dtd D (dat D at_) else if 0<=twoRun D at_ 0 2/\D.c (at_+2)=58 then timN D at_ else if hasB D at_ [48,120]=true then baseN D at_ 16
  else if hasB D at_ [48,111]=true then baseN D at_ 8 else if hasB D at_ [48,98]=true then baseN D at_ 2 else infN D at_ (sgnN D at_)):=rfl
 obtain ⟨t4,ht⟩:∃ t,twoRun D at_ 0 4=t:=⟨_,rfl⟩;have Ht4:=qqh ht;have h40:0<=t4->0<=twoRun D at_ 0 4:=fun h => by rw [ht];exact h
 have H40:=qqh h40;clear ht h40;obtain ⟨t2,ht⟩:∃ t,twoRun D at_ 0 2=t:=⟨_,rfl⟩;have Ht2:=qqh ht;clear ht;obtain ⟨tK,ht⟩:∃ t,clkN D at_=t:=⟨_,rfl⟩;rw [ht] at hck;have HtK:=qqh ht;clear ht;obtain ⟨tB,ht⟩:∃ t,clkB D at_=t:=⟨_,rfl⟩;have HtB:=qqh ht;clear ht;go_enter Tryz.func50,Tryz.ntmps50;go_upto_region 1 with fail;go_cut [21] (fun c wx => c=.bool (decide (0<=t4/\D.c (at_+4)=45))/\∃ n,wx=((w.alloc (.cells #[.int .i64 0,.string ⟨#[]⟩,.slice none 0 0,.slice none 0 0] 43)).drewN n))
 case first =>
  go_wp2_with (first
   | (go_at_call 71;refine (two_p D bp A C at_ st (at_) 4 _ _ _ (by first | exact hN.out.ps | exact hN.out.ps) (by omega) (by omega) (by omega) rfl (by omega) (by omega)).mono ?_;rintro e w1 ⟨rfl,nq,rfl⟩;rw [Ht4.out])
   | (go_at_call 20;refine (peek_p D bp A C at_ st (at_+4) _ _ (by first | exact hN.out.ps | exact hN.out.ps.drewN _) (by omega) (by omega) (by omega) (by omega)).mono ?_;rintro e w1 ⟨rfl,nq,rfl⟩))
  all_goals (go_meet;refine ⟨congrArg Value.bool ?_,_,rfl⟩;(first | (symm;rw [decide_eq_true_iff];(try simp only [beq_iff_eq,beq_eq_false_iff_ne,bne_iff_ne,bne_eq_false_iff_eq] at *);omega) | (symm;rw [decide_eq_false_iff_not];(try simp only [beq_iff_eq,beq_eq_false_iff_ne,bne_iff_ne,bne_eq_false_iff_eq] at *);omega) | (rw [Bool.eq_iff_iff];simp <;> omega)))
 case rest =>
  obtain ⟨hc,nq,rfl⟩:=hcut;by_cases hP1:0<=t4/\D.c (at_+4)=45
  ·rw [qqt hP1] at hc;subst hc;exact absurd ⟨H40.out hP1.1,hP1.2⟩ HX1.out
  ·rw [qqf hP1] at hc;subst hc;have hn1:Hid (¬ (0<=twoRun D at_ 0 4/\D.c (at_+4)=45)):=(by show ¬ _;rw [Ht4.out];exact hP1);go_upto_region 3 with fail;go_cut [33] (fun c wx => c=.bool (decide (0<=t2/\D.c (at_+2)=58))/\∃ n,wx=((w.alloc (.cells #[.int .i64 0,.string ⟨#[]⟩,.slice none 0 0,.slice none 0 0] 43)).drewN n))
   case first =>
    go_wp2_with (first
     | (go_at_call 71;refine (two_p D bp A C at_ st (at_) 2 _ _ _ (by first | exact hN.out.ps | exact hN.out.ps.drewN _) (by omega) (by omega) (by omega) rfl (by omega) (by omega)).mono ?_;rintro e w1 ⟨rfl,nq,rfl⟩;rw [Ht2.out])
     | (go_at_call 20;refine (peek_p D bp A C at_ st (at_+2) _ _ (by first | exact hN.out.ps | exact hN.out.ps.drewN _) (by omega) (by omega) (by omega) (by omega)).mono ?_;rintro e w1 ⟨rfl,nq,rfl⟩))
    all_goals (go_meet;refine ⟨congrArg Value.bool ?_,_,rfl⟩;(first | (symm;rw [decide_eq_true_iff];(try simp only [beq_iff_eq,beq_eq_false_iff_ne,bne_iff_ne,bne_eq_false_iff_eq] at *);omega) | (symm;rw [decide_eq_false_iff_not];(try simp only [beq_iff_eq,beq_eq_false_iff_ne,bne_iff_ne,bne_eq_false_iff_eq] at *);omega) | (rw [Bool.eq_iff_iff];simp <;> omega)))
   case rest =>
    obtain ⟨hc,nq,rfl⟩:=hcut;by_cases hP3:0<=t2/\D.c (at_+2)=58
    ·rw [qqt hP3] at hc;subst hc;exact absurd (by rw [Ht2.out];exact hP3) HX3.out
    ·rw [qqf hP3] at hc;subst hc;have hn3:Hid (¬ (0<=twoRun D at_ 0 2/\D.c (at_+2)=58)):=(by show ¬ _;rw [Ht2.out];exact hP3);go_wp2_with fail
     refine wp_at (fun W => (W.cell? ⟨w.heap.size+1,0,none⟩=some (.string ⟨#[48,120]⟩)/\W.cell? ⟨w.heap.size+1,1,none⟩=some (.string ⟨#[48,111]⟩)/\W.cell? ⟨w.heap.size+1,2,none⟩=some (.string ⟨#[48,98]⟩))
      /\ Hid (NS D bp A C w w.heap.size [.int .i64 0,.string ⟨#[]⟩,.slice none 0 0,.slice none 0 0] 43 W at_ st)) ⟨?_,NS.alloc (NS.drewN hN.out _) _⟩ ?_
     ·refine ⟨?_,?_,?_⟩ <;> (rw [cell_new (by simp)];rfl)
     rintro W ⟨⟨z0,z1,z2⟩,hNW⟩;have hin0:=hasB_in HB2.out;simp only [List.length_cons,List.length_nil] at hin0;have hgl:=grp_le D 2 (at_+2);obtain ⟨tG,ht⟩:∃ t,grp D 2 (at_+2)=t:=⟨_,rfl⟩;rw [ht] at hgl;have HG:=qqh ht;clear ht;refine wp_loop_rounds 4 ?_;rw [rounds_succ];go_wp2_with fail
     refine (has_c D bp A C at_ st [48,120] _ (by first | exact hNW.out.ps | exact hNW.out.ps.drewN _) (by omega) (by simp) (by simp)).mono ?_;rintro e w2 ⟨rfl,nq0,rfl⟩;rw [HB0.out];go_wp2_with fail
     rw [rounds_succ];go_wp2_with fail
     refine (has_c D bp A C at_ st [48,111] _ (by first | exact hNW.out.ps | exact hNW.out.ps.drewN _) (by omega) (by simp) (by simp)).mono ?_;rintro e w2 ⟨rfl,nq1,rfl⟩;rw [HB1.out];go_wp2_with fail
     rw [rounds_succ];go_wp2_with fail
     refine (has_c D bp A C at_ st [48,98] _ (by first | exact hNW.out.ps | exact hNW.out.ps.drewN _) (by omega) (by simp) (by simp)).mono ?_;rintro e w2 ⟨rfl,nq2,rfl⟩;rw [HB2.out];have zz:∀ n,((W.drewN n).alloc (.cells #[.int .i64 16,.int .i64 8,.int .i64 2] 3)).cell? ⟨W.heap.size,2,none⟩=some (.int .i64 2):=fun n => by rw [cell_new (by simp)];rfl
     go_wp2_with fail
     clear zz;have hN2:=qqh (NS.alloc (NS.drewN hNW.out (nq0+nq1+nq2)) (.cells #[.int .i64 16,.int .i64 8,.int .i64 2] 3));refine (grouped_p D bp A C at_ st (at_+2) 2 _ _ _ (by exact hN2.out.ps) (by omega) (by omega) (by omega) rfl (by omega) (by omega)).mono ?_;rintro e w2 ⟨rfl,nqg,rfl⟩;rw [HG.out];by_cases hPG:tG=0
     ·have eG:((tG:Int) == 0)=true:=(by rw [beq_iff_eq];omega);have hf:Hid (numP D at_=.bad):=by
       show _=_;rw [HE.out,if_neg hn1.out,if_neg hn3.out,if_neg (by rw [HB0.out];simp),if_neg (by rw [HB1.out];simp),if_pos HB2.out,baseN,if_pos (by rw [HG.out];exact hPG)]
      go_wp2_with fail
      refine (fail_c D bp A C at_ st _ (by first | exact hN2.out.ps | exact hN2.out.ps.drewN _)).mono ?_;rintro e w1 ⟨rfl,hp1,hk1⟩;have hM:=qqh (NS.call (D:=D) (A:=A) (C:=C) (w0:=w) (R:=w.heap.size) (xs:=[.int .i64 0,.string ⟨#[]⟩,.slice none 0 0,.slice none 0 0]) (t:=43) (at_:=at_) (st:=st) (by first | exact hN2.out | exact hN2.out.drewN _) hp1 hk1);have b0:=hM.out.blk.cell 0 rfl;have b1:=hM.out.blk.cell 1 rfl;have b2:=hM.out.blk.cell 2 rfl;have b3:=hM.out.blk.cell 3 rfl;have g0:=hM.out.blk.free 0;have g1:=hM.out.blk.free 1;have g2:=hM.out.blk.free 2;have g3:=hM.out.blk.free 3;clear hp1 hk1;go_wp2_with fail
      have h:=NS.put (NS.put (NS.put (NS.put hM.out 0 (.int .i64 0)) 1 (.string ⟨#[]⟩)) 2 (.slice none 0 0)) 3 (.slice none 0 0);refine bodyPost_ret (v:=.agg #[.int .i64 0,.string ⟨#[]⟩,.slice none 0 0,.slice none 0 0]) (by simp [results,Tryz.results50,go_sem,b0,b1,b2,b3]) rfl ⟨⟨_,rfl,?_⟩,?_,?_⟩
      ·rw [hf.out];exact ⟨0,[],rfl⟩
      ·rw [hf.out];exact h.ps
      ·exact h.kp
     ·have eG:((tG:Int) == 0)=false:=qqn (by omega);have hf:Hid (numP D at_=.good (1,D.sub at_ (2+tG)) (at_+(2+tG))):=by
       show _=_;rw [HE.out,if_neg hn1.out,if_neg hn3.out,if_neg (by rw [HB0.out];simp),if_neg (by rw [HB1.out];simp),if_pos HB2.out,baseN,if_neg (by rw [HG.out];exact hPG),HG.out]
      go_wp2_with fail
      refine (raw_c D bp A C at_ st _ _ _ (by first | exact hN2.out.ps | exact hN2.out.ps.drewN _) (by omega) (by omega) (by omega) (by omega)).mono ?_;rintro e w1 ⟨rfl,hp1,hk1⟩;rw [int_nat (n:=2+tG) (by omega)] at hp1 ⊢;have hM:=qqh (NS.call (D:=D) (A:=A) (C:=C) (w0:=w) (R:=w.heap.size) (xs:=[.int .i64 0,.string ⟨#[]⟩,.slice none 0 0,.slice none 0 0]) (t:=43) (at_:=at_) (st:=st) (by first | exact hN2.out | exact hN2.out.drewN _) hp1 hk1);obtain ⟨S,hS⟩:∃ S:ByteArray,(⟨(D.sub at_ (2+tG)).toArray⟩:ByteArray)=S:=⟨_,rfl⟩;rw [hS];have HS:=qqh hS;have b0:=hM.out.blk.cell 0 rfl;have b1:=hM.out.blk.cell 1 rfl;have b2:=hM.out.blk.cell 2 rfl;have b3:=hM.out.blk.cell 3 rfl;have g0:=hM.out.blk.free 0;have g1:=hM.out.blk.free 1;have g2:=hM.out.blk.free 2;have g3:=hM.out.blk.free 3;clear hp1 hk1 hS;go_wp2_with fail
      have h:=NS.put (NS.put (NS.put (NS.put hM.out 0 (.int .i64 1)) 1 (.string S)) 2 (.slice none 0 0)) 3 (.slice none 0 0);refine bodyPost_ret (v:=.agg #[.int .i64 1,.string S,.slice none 0 0,.slice none 0 0]) (by simp [results,Tryz.results50,go_sem,b0,b1,b2,b3]) rfl ⟨⟨_,rfl,?_⟩,?_,?_⟩
      ·rw [hf.out];show _=leafV _ _;unfold leafV;rw [HS.out];rfl
      ·rw [hf.out];exact h.ps
      ·exact h.kp
theorem number_inf (D:Doc) (bp:Nat) (A:Option Addr) (C:Nat) (at_ st:Nat) (w:World) (hp:PS D bp A C w at_ st) (hat:at_<=D.n) (hA:∀ a,A=some a->a.block<w.heap.size) (HX1:Hid (¬ (0<=twoRun D at_ 0 4/\D.c (at_+4)=45))) (HX3:Hid (¬ (0<=twoRun D at_ 0 2/\D.c (at_+2)=58))) (HB0:Hid (hasB D at_ [48,120]=false)) (HB1:Hid (hasB D at_ [48,111]=false)) (HB2:Hid (hasB D at_ [48,98]=false)) (HX:Hid (hasB D (at_+sgnN D at_) [105,110,102]=true\/hasB D (at_+sgnN D at_) [110,97,110]=true)) :
  Calls Tryz.prog 50 #[.pointer (some ⟨bp,0,none⟩)] w fun e w' => (∃ v,e=.returned v/\LeafOk (numP D at_) v)/\PS D bp A C w' ((numP D at_).pos D) ((numP D at_).st st)/\Kp (Only bp) w w':=by
 have hs:=D.small;have hlt:=hp.blk.lt;have hN:=qqh (NS.start hp hA w.heap.size rfl [.int .i64 0,.string ⟨#[]⟩,.slice none 0 0,.slice none 0 0] 43);have hA1:∀ a,A=some a->a.block<(w.alloc (.cells #[.int .i64 0,.string ⟨#[]⟩,.slice none 0 0,.slice none 0 0] 43)).heap.size:=fun a ha => by have:=hA a ha;simp;omega
 have HA1:=qqh hA1;clear hp hA hA1;have hck:=clkN_in D at_;have hdn:=datN_in D at_ hat;have HE:Hid (numP D at_=if 0<=twoRun D at_ 0 4/\D.c (at_+4)=45 then dtd D (dat D at_) else if 0<=twoRun D at_ 0 2/\D.c (at_+2)=58 then timN D at_ else if hasB D at_ [48,120]=true then baseN D at_ 16
  else if hasB D at_ [48,111]=true then baseN D at_ 8 else if hasB D at_ [48,98]=true then baseN D at_ 2 else infN D at_ (sgnN D at_)):=rfl
 obtain ⟨t4,ht⟩:∃ t,twoRun D at_ 0 4=t:=⟨_,rfl⟩;have Ht4:=qqh ht;have h40:0<=t4->0<=twoRun D at_ 0 4:=fun h => by rw [ht];exact h
 have H40:=qqh h40;clear ht h40;obtain ⟨t2,ht⟩:∃ t,twoRun D at_ 0 2=t:=⟨_,rfl⟩;have Ht2:=qqh ht;clear ht;obtain ⟨tK,ht⟩:∃ t,clkN D at_=t:=⟨_,rfl⟩;rw [ht] at hck;have HtK:=qqh ht;clear ht;obtain ⟨tB,ht⟩:∃ t,clkB D at_=t:=⟨_,rfl⟩;have HtB:=qqh ht;clear ht;go_enter Tryz.func50,Tryz.ntmps50;go_upto_region 1 with fail;go_cut [21] (fun c wx => c=.bool (decide (0<=t4/\D.c (at_+4)=45))/\∃ n,wx=((w.alloc (.cells #[.int .i64 0,.string ⟨#[]⟩,.slice none 0 0,.slice none 0 0] 43)).drewN n))
 case first =>
  go_wp2_with (first
   | (go_at_call 71;refine (two_p D bp A C at_ st (at_) 4 _ _ _ (by first | exact hN.out.ps | exact hN.out.ps) (by omega) (by omega) (by omega) rfl (by omega) (by omega)).mono ?_;rintro e w1 ⟨rfl,nq,rfl⟩;rw [Ht4.out])
   | (go_at_call 20;refine (peek_p D bp A C at_ st (at_+4) _ _ (by first | exact hN.out.ps | exact hN.out.ps.drewN _) (by omega) (by omega) (by omega) (by omega)).mono ?_;rintro e w1 ⟨rfl,nq,rfl⟩))
  all_goals (go_meet;refine ⟨congrArg Value.bool ?_,_,rfl⟩;(first | (symm;rw [decide_eq_true_iff];(try simp only [beq_iff_eq,beq_eq_false_iff_ne,bne_iff_ne,bne_eq_false_iff_eq] at *);omega) | (symm;rw [decide_eq_false_iff_not];(try simp only [beq_iff_eq,beq_eq_false_iff_ne,bne_iff_ne,bne_eq_false_iff_eq] at *);omega) | (rw [Bool.eq_iff_iff];simp <;> omega)))
 case rest =>
  obtain ⟨hc,nq,rfl⟩:=hcut;by_cases hP1:0<=t4/\D.c (at_+4)=45
  ·rw [qqt hP1] at hc;subst hc;exact absurd ⟨H40.out hP1.1,hP1.2⟩ HX1.out
  ·rw [qqf hP1] at hc;subst hc;have hn1:Hid (¬ (0<=twoRun D at_ 0 4/\D.c (at_+4)=45)):=(by show ¬ _;rw [Ht4.out];exact hP1);go_upto_region 3 with fail;go_cut [33] (fun c wx => c=.bool (decide (0<=t2/\D.c (at_+2)=58))/\∃ n,wx=((w.alloc (.cells #[.int .i64 0,.string ⟨#[]⟩,.slice none 0 0,.slice none 0 0] 43)).drewN n))
   case first =>
    go_wp2_with (first
     | (go_at_call 71;refine (two_p D bp A C at_ st (at_) 2 _ _ _ (by first | exact hN.out.ps | exact hN.out.ps.drewN _) (by omega) (by omega) (by omega) rfl (by omega) (by omega)).mono ?_;rintro e w1 ⟨rfl,nq,rfl⟩;rw [Ht2.out])
     | (go_at_call 20;refine (peek_p D bp A C at_ st (at_+2) _ _ (by first | exact hN.out.ps | exact hN.out.ps.drewN _) (by omega) (by omega) (by omega) (by omega)).mono ?_;rintro e w1 ⟨rfl,nq,rfl⟩))
    all_goals (go_meet;refine ⟨congrArg Value.bool ?_,_,rfl⟩;(first | (symm;rw [decide_eq_true_iff];(try simp only [beq_iff_eq,beq_eq_false_iff_ne,bne_iff_ne,bne_eq_false_iff_eq] at *);omega) | (symm;rw [decide_eq_false_iff_not];(try simp only [beq_iff_eq,beq_eq_false_iff_ne,bne_iff_ne,bne_eq_false_iff_eq] at *);omega) | (rw [Bool.eq_iff_iff];simp <;> omega)))
   case rest =>
    obtain ⟨hc,nq,rfl⟩:=hcut;by_cases hP3:0<=t2/\D.c (at_+2)=58
    ·rw [qqt hP3] at hc;subst hc;exact absurd (by rw [Ht2.out];exact hP3) HX3.out
    ·rw [qqf hP3] at hc;subst hc;have hn3:Hid (¬ (0<=twoRun D at_ 0 2/\D.c (at_+2)=58)):=(by show ¬ _;rw [Ht2.out];exact hP3);go_wp2_with fail
     refine wp_at (fun W => (W.cell? ⟨w.heap.size+1,0,none⟩=some (.string ⟨#[48,120]⟩)/\W.cell? ⟨w.heap.size+1,1,none⟩=some (.string ⟨#[48,111]⟩)/\W.cell? ⟨w.heap.size+1,2,none⟩=some (.string ⟨#[48,98]⟩))
      /\ Hid (NS D bp A C w w.heap.size [.int .i64 0,.string ⟨#[]⟩,.slice none 0 0,.slice none 0 0] 43 W at_ st)) ⟨?_,NS.alloc (NS.drewN hN.out _) _⟩ ?_
     ·refine ⟨?_,?_,?_⟩ <;> (rw [cell_new (by simp)];rfl)
     rintro W ⟨⟨z0,z1,z2⟩,hNW⟩;refine wp_loop_rounds 4 ?_;rw [rounds_succ];go_wp2_with fail
     refine (has_c D bp A C at_ st [48,120] _ (by first | exact hNW.out.ps | exact hNW.out.ps.drewN _) (by omega) (by simp) (by simp)).mono ?_;rintro e w2 ⟨rfl,nq0,rfl⟩;rw [HB0.out];go_wp2_with fail
     rw [rounds_succ];go_wp2_with fail
     refine (has_c D bp A C at_ st [48,111] _ (by first | exact hNW.out.ps | exact hNW.out.ps.drewN _) (by omega) (by simp) (by simp)).mono ?_;rintro e w2 ⟨rfl,nq1,rfl⟩;rw [HB1.out];go_wp2_with fail
     rw [rounds_succ];go_wp2_with fail
     refine (has_c D bp A C at_ st [48,98] _ (by first | exact hNW.out.ps | exact hNW.out.ps.drewN _) (by omega) (by simp) (by simp)).mono ?_;rintro e w2 ⟨rfl,nq2,rfl⟩;rw [HB2.out];go_wp2_with fail
     rw [rounds_succ];go_upto_region 21 with fail;go_cut [85] (fun c wx => c=.bool (decide (D.c at_=43\/D.c at_=45))/\∃ n,wx=(W.drewN n))
     case first =>
      go_wp2_with (go_at_call 20;refine (peek_p D bp A C at_ st at_ _ _ (by exact hNW.out.ps.drewN _) (by omega) (by omega) (by omega) (by omega)).mono ?_;rintro e w1 ⟨rfl,nq,rfl⟩)
      all_goals (go_meet;refine ⟨congrArg Value.bool ?_,_,rfl⟩;(first | (symm;rw [decide_eq_true_iff];(try simp only [beq_iff_eq,beq_eq_false_iff_ne,bne_iff_ne,bne_eq_false_iff_eq] at *);omega) | (symm;rw [decide_eq_false_iff_not];(try simp only [beq_iff_eq,beq_eq_false_iff_ne,bne_iff_ne,bne_eq_false_iff_eq] at *);omega) | (rw [Bool.eq_iff_iff];simp <;> omega)))
     case rest =>
      obtain ⟨hc,nq,rfl⟩:=hcut;subst hc;go_upto_if 85 with fail;go_cut [8] (fun x wx => x=.int .i64 (sgnN D at_:Nat)/\∃ n,wx=(W.drewN n))
      case first =>
       by_cases hP21:D.c at_=43\/D.c at_=45
       ·have e21:decide (D.c at_=43\/D.c at_=45)=true:=qqt hP21;go_wp2_with fail
        go_meet;exact ⟨by unfold sgnN;rw [if_pos hP21];rfl,_,rfl⟩
       ·have e21:decide (D.c at_=43\/D.c at_=45)=false:=qqf hP21;go_wp2_with fail
        go_meet;exact ⟨by unfold sgnN;rw [if_neg hP21];rfl,_,rfl⟩
      case rest =>
       obtain ⟨rfl,nq,rfl⟩:=hcut;have hsg:sgnN D at_<=1/\at_+sgnN D at_<=D.n:=by
        unfold sgnN;have:=Doc.in_of (D:=D) (k:=at_);split <;> omega
       obtain ⟨tn,ht⟩:∃ t,sgnN D at_=t:=⟨_,rfl⟩;rw [ht] at hsg ⊢;have Htn:=qqh ht;clear ht;have hf0:Hid (numP D at_=infN D at_ tn):=(by show _=_;rw [HE.out,if_neg hn1.out,if_neg hn3.out,if_neg (by rw [HB0.out];simp),if_neg (by rw [HB1.out];simp),if_neg (by rw [HB2.out];simp),Htn.out]);clear z0 z1 z2;go_upto_region 23 with fail;go_wp2_with fail
       refine wp_at (fun W2 => (W2.cell? ⟨W.heap.size,0,none⟩=some (.string ⟨#[105,110,102]⟩)/\W2.cell? ⟨W.heap.size,1,none⟩=some (.string ⟨#[110,97,110]⟩))
        /\ Hid (NS D bp A C w w.heap.size [.int .i64 0,.string ⟨#[]⟩,.slice none 0 0,.slice none 0 0] 43 W2 at_ st)) ⟨?_,NS.alloc (NS.drewN hNW.out _) _⟩ ?_
       ·refine ⟨?_,?_⟩ <;> (rw [cell_new (by simp)];rfl)
       rintro W2 ⟨⟨z0,z1⟩,hN2⟩;refine wp_loop_rounds 3 ?_;rw [rounds_succ];have q0:=hN2.out.ps.c0;have q1:=hN2.out.ps.c1;have hdl:decide ((at_:Int)+tn<=D.n)=true:=qqt (by omega);have HA2:Hid (∀ a,A=some a->a.block<W2.heap.size):=fun a ha => by have:=HA1.out a ha;have:=hN2.out.kp.size;have:=hN2.out.blk.lt;simp at *;omega
       go_upto_region 26 with fail;go_cut [119] (fun c wx => c=.bool (hasB D (at_+tn) [105,110,102])/\wx.cell? ⟨W.heap.size,1,none⟩=some (.string ⟨#[110,97,110]⟩)/\Hid (NS D bp A C w w.heap.size [.int .i64 0,.string ⟨#[]⟩,.slice none 0 0,.slice none 0 0] 43 wx at_ st))
       case first =>
        have w1:IntKind.i64.wrap ((at_:Int)+(tn:Int))=(at_:Int)+(tn:Int):=IntWalk.i64_in _ (by omega)
        go_region_held3 (fun w' => w'.cell? ⟨bp,0,none⟩=some (.slice A D.n C)/\w'.cell? ⟨bp,1,none⟩=some (.int .i64 at_)) (go_keep) (first | ((go_at_call 22;refine (has_c D W2.heap.size A C (at_+tn) 0 [105,110,102] _ (by exact PS.fresh (hN2.out.ps.drewN _) HA2.out _ rfl _ (at_+tn) (by omega)) (by omega) (by simp) (by simp)).mono ?_;rintro e w3 ⟨rfl,nq3,rfl⟩)))
        go_wp2_with fail
        go_meet;exact ⟨rfl,(World.cell?_alloc_lt (w:=W2) (a:=⟨W.heap.size,1,none⟩) _ (World.block_lt_of_cell? (w:=W2) (a:=⟨W.heap.size,1,none⟩) z1)).trans z1,(by first | exact NS.drewN (NS.alloc (NS.drewN hN2.out _) _) _ | exact NS.drewN (NS.alloc hN2.out _) _)⟩
       case rest =>
        obtain ⟨rfl,z1,hN2'⟩:=hcut;clear z0 q0 q1 HA2;by_cases hBi0:hasB D (at_+tn) [105,110,102]=true
        ·rw [hBi0];have hin0:=hasB_in hBi0;simp only [List.length_cons,List.length_nil] at hin0;have hf:Hid (numP D at_=.good (2,D.sub at_ (tn+3)) (at_+(tn+3))):=by
          show _=_;rw [hf0.out,infN,if_pos (.inl hBi0)]
         go_wp2_with fail
         refine (raw_c D bp A C at_ st _ _ _ (by first | exact hN2'.out.ps | exact hN2'.out.ps.drewN _) (by omega) (by omega) (by omega) (by omega)).mono ?_;rintro e w1 ⟨rfl,hp1,hk1⟩;rw [int_nat (n:=tn+3) (by omega)] at hp1 ⊢;have hM:=qqh (NS.call (D:=D) (A:=A) (C:=C) (w0:=w) (R:=w.heap.size) (xs:=[.int .i64 0,.string ⟨#[]⟩,.slice none 0 0,.slice none 0 0]) (t:=43) (at_:=at_) (st:=st) (by first | exact hN2'.out | exact hN2'.out.drewN _) hp1 hk1);obtain ⟨S,hS⟩:∃ S:ByteArray,(⟨(D.sub at_ (tn+3)).toArray⟩:ByteArray)=S:=⟨_,rfl⟩;rw [hS];have HS:=qqh hS;have b0:=hM.out.blk.cell 0 rfl;have b1:=hM.out.blk.cell 1 rfl;have b2:=hM.out.blk.cell 2 rfl;have b3:=hM.out.blk.cell 3 rfl;have g0:=hM.out.blk.free 0;have g1:=hM.out.blk.free 1;have g2:=hM.out.blk.free 2;have g3:=hM.out.blk.free 3;clear hp1 hk1 hS;go_wp2_with fail
         have h:=NS.put (NS.put (NS.put (NS.put hM.out 0 (.int .i64 2)) 1 (.string S)) 2 (.slice none 0 0)) 3 (.slice none 0 0);refine bodyPost_ret (v:=.agg #[.int .i64 2,.string S,.slice none 0 0,.slice none 0 0]) (by simp [results,Tryz.results50,go_sem,b0,b1,b2,b3]) rfl ⟨⟨_,rfl,?_⟩,?_,?_⟩
         ·rw [hf.out];show _=leafV _ _;unfold leafV;rw [HS.out];rfl
         ·rw [hf.out];exact h.ps
         ·exact h.kp
        ·have eBi0:hasB D (at_+tn) [105,110,102]=false:=(by simpa using hBi0);rw [eBi0];go_wp2_with fail
         rw [rounds_succ];have q0:=hN2'.out.ps.c0;have q1:=hN2'.out.ps.c1;have hdl:decide ((at_:Int)+tn<=D.n)=true:=qqt (by omega);have HA2:Hid (∀ a,A=some a->a.block<wc.heap.size):=fun a ha => by have:=HA1.out a ha;have:=hN2'.out.kp.size;have:=hN2'.out.blk.lt;simp at *;omega
         go_upto_region 26 with fail;go_cut [119] (fun c wx => c=.bool (hasB D (at_+tn) [110,97,110])/\True/\Hid (NS D bp A C w w.heap.size [.int .i64 0,.string ⟨#[]⟩,.slice none 0 0,.slice none 0 0] 43 wx at_ st))
         case first =>
          have w1:IntKind.i64.wrap ((at_:Int)+(tn:Int))=(at_:Int)+(tn:Int):=IntWalk.i64_in _ (by omega)
          go_region_held3 (fun w' => w'.cell? ⟨bp,0,none⟩=some (.slice A D.n C)/\w'.cell? ⟨bp,1,none⟩=some (.int .i64 at_)) (go_keep) (first | ((go_at_call 22;refine (has_c D wc.heap.size A C (at_+tn) 0 [110,97,110] _ (by exact PS.fresh (hN2'.out.ps.drewN _) HA2.out _ rfl _ (at_+tn) (by omega)) (by omega) (by simp) (by simp)).mono ?_;rintro e w3 ⟨rfl,nq3,rfl⟩)))
          go_wp2_with fail
          go_meet;exact ⟨rfl,trivial,(by first | exact NS.drewN (NS.alloc (NS.drewN hN2'.out _) _) _ | exact NS.drewN (NS.alloc hN2'.out _) _)⟩
         case rest =>
          obtain ⟨rfl,-,hN3'⟩:=hcut;have hBi1:hasB D (at_+tn) [110,97,110]=true:=by
           rcases HX.out with h | h
           ·rw [Htn.out] at h;exact absurd h hBi0
           ·rw [Htn.out] at h;exact h
          rw [hBi1];have hin0:=hasB_in hBi1;simp only [List.length_cons,List.length_nil] at hin0;have hf:Hid (numP D at_=.good (2,D.sub at_ (tn+3)) (at_+(tn+3))):=by
           show _=_;rw [hf0.out,infN,if_pos (.inr hBi1)]
          go_wp2_with fail
          refine (raw_c D bp A C at_ st _ _ _ (by first | exact hN3'.out.ps | exact hN3'.out.ps.drewN _) (by omega) (by omega) (by omega) (by omega)).mono ?_;rintro e w1 ⟨rfl,hp1,hk1⟩;rw [int_nat (n:=tn+3) (by omega)] at hp1 ⊢;have hM:=qqh (NS.call (D:=D) (A:=A) (C:=C) (w0:=w) (R:=w.heap.size) (xs:=[.int .i64 0,.string ⟨#[]⟩,.slice none 0 0,.slice none 0 0]) (t:=43) (at_:=at_) (st:=st) (by first | exact hN3'.out | exact hN3'.out.drewN _) hp1 hk1);obtain ⟨S,hS⟩:∃ S:ByteArray,(⟨(D.sub at_ (tn+3)).toArray⟩:ByteArray)=S:=⟨_,rfl⟩;rw [hS];have HS:=qqh hS;have b0:=hM.out.blk.cell 0 rfl;have b1:=hM.out.blk.cell 1 rfl;have b2:=hM.out.blk.cell 2 rfl;have b3:=hM.out.blk.cell 3 rfl;have g0:=hM.out.blk.free 0;have g1:=hM.out.blk.free 1;have g2:=hM.out.blk.free 2;have g3:=hM.out.blk.free 3;clear hp1 hk1 hS;go_wp2_with fail
          have h:=NS.put (NS.put (NS.put (NS.put hM.out 0 (.int .i64 2)) 1 (.string S)) 2 (.slice none 0 0)) 3 (.slice none 0 0);refine bodyPost_ret (v:=.agg #[.int .i64 2,.string S,.slice none 0 0,.slice none 0 0]) (by simp [results,Tryz.results50,go_sem,b0,b1,b2,b3]) rfl ⟨⟨_,rfl,?_⟩,?_,?_⟩
          ·rw [hf.out];show _=leafV _ _;unfold leafV;rw [HS.out];rfl
          ·rw [hf.out];exact h.ps
          ·exact h.kp
end Go.Proofs.YtpgmddjgcgpoeaaGreat
