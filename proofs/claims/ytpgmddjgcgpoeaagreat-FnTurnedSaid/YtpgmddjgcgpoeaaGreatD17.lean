/-
  A part of the proof.
-/
import Derived.Test.YtpgmddjgcgpoeaaGreatD16
set_option linter.unusedVariables false
set_option linter.unusedSimpArgs false
set_option maxRecDepth 100000
set_option maxHeartbeats 8000000
namespace Go.Proofs.YtpgmddjgcgpoeaaGreat
open Go.RowKit
theorem OwnB.alloc {w:World} {base:Nat} {v:Value} {l:List UInt8} (h:OwnB w base v l) (o:Obj):OwnB (w.alloc o) base v l:=World.ownsRow.alloc h o
theorem has_three (D:Doc) (q k:Nat) (hq:q ≠ 0) (hq2:q<256):hasB D k [UInt8.ofNat q,UInt8.ofNat q,UInt8.ofNat q]=decide (three D q k):=by
 have e:(UInt8.ofNat q).toNat=q:=by rw [UInt8.toNat_ofNat'];omega
 have h0:UInt8.ofNat q ≠ 0:=fun h => by have:=congrArg UInt8.toNat h;rw [e] at this;exact hq this
 rcases qqg D.n k with hk | hk
 ·rw [hasB_past D k _ (by simp) (by omega)];have:=D.out k (by omega)
  symm
  rw [decide_eq_false_iff_not];intro h;unfold three at h;omega
 ·rw [hasB_all D k _ (by simp [h0]) hk];simp only [hasAll,e,Bool.and_true];rw [Bool.eq_iff_iff];constructor
  ·intro h;exact qqt (show three D q k by unfold three;simpa [Nat.add_assoc] using h)
  ·intro h;have h:=of_decide_eq_true h;unfold three at h;simpa [Nat.add_assoc] using h
theorem lines_c (D:Doc) (bp:Nat) (A:Option Addr) (C:Nat) (at_ q:Nat) (w:World) (hp:PS D bp A C w at_ 0) (hat:at_+3<=D.n) (hA:∀ a,A=some a->a.block<w.heap.size) (hq:q=34\/q=39) :
  Calls Tryz.prog 46 #[.pointer (some ⟨bp,0,none⟩),.int .u8 q] w fun e w' => e=.returned (.string ⟨(lin D q at_).list.toArray⟩)/\PS D bp A C w' ((lin D q at_).pos D) ((lin D q at_).st 0)/\Kp (Only bp) w w':=by
 have hs:=D.small;have HP:=qqh hp;have h1:=hp.c1;have f1:=hp.f 1;have hbl:=hp.blk.lt;clear hp;have hx:Hid (lin D q at_=linRun D q (at_+3+nlen D (at_+3)) []):=rfl;obtain ⟨q8,hq8⟩:∃ q8,UInt8.ofNat q=q8:=⟨_,rfl⟩;have hqn:q8.toNat=q:=by rw [<- hq8,UInt8.toNat_ofNat'];omega
 have HQ8:=qqh hq8;have HQN:=qqh hqn;have hT3:∀ k,hasB D k [q8,q8,q8]=decide (three D q k):=fun k => by rw [<- hq8];exact has_three D q k (by omega) (by omega)
 have HT3:=qqh hT3;have hqb:q<256:=by omega
 have hcv:∀ X,(convert 22 9 (.slice (some ⟨w.heap.size+1,0,none⟩) 3 3)).run Tryz.prog ((((w.setCell ⟨bp,1,none⟩ X).alloc (.cells #[] 5)).alloc (.cells #[.int .u8 q,.int .u8 q,.int .u8 q] 5))) =
   .ok (.string ⟨[q8,q8,q8].toArray⟩) ((((w.setCell ⟨bp,1,none⟩ X).alloc (.cells #[] 5)).alloc (.cells #[.int .u8 q,.int .u8 q,.int .u8 q] 5))):=fun X => by
  refine run_convert_bytes_back (P:=Tryz.prog) _ 22 9 5 ⟨w.heap.size+1,0,none⟩ 3 [q8,q8,q8] Tryz.underlying22 Tryz.underlying5 Tryz.underlying9 (fun j hj => ?_);rw [show (⟨w.heap.size+1,0,none⟩:Addr).add j=⟨w.heap.size+1,j,none⟩ by unfold Addr.add;split <;> simp_all,cell_new (by simp)];have hj3:j<3:=hj
  match j,hj3 with
  | 0,_ => simp [hqn]
  | 1,_ => simp [hqn]
  | 2,_ => simp [hqn]
 clear hT3 hqn hq8;have hnl:Hid (at_+3+nlen D (at_+3)<=D.n):=by
  show _<=_;by_cases h:nlen D (at_+3)=0
  ·omega
  ·exact nlen_in h
 go_enter Tryz.func46,Tryz.ntmps46;go_wp2_with fail
 refine (line_c D bp A C (at_+3) 0 _ (by exact PS.alloc (PS.alloc (PS.setAt HP.out _ (at_+3) (by omega)) _) _) (by omega)).mono ?_;rintro e w0 ⟨rfl,hp0,hk0⟩;have hp0:=qqh hp0;have hown0:Hid (OwnB w0 w.heap.size (.slice (some ⟨w.heap.size,0,none⟩) 0 0) []):=by
  refine OwnB.kp ?_ hk0 (fun g hg hS => ?_)
  ·exact OwnB.alloc (OwnB.made (by simp) (qqr _)) _
  ·injection hg with hg;have hS:g=bp:=hS;simp only at hg;omega
 have hk0:=qqh (Kp.trans (Kp.alloc (Kp.alloc (Kp.putOnly (Kp.refl (Only bp) w) _) _) _) hk0);go_wp2_with fail
 go_loopw [5] (fun v wr => ∃ (k st:Nat) (acc:List UInt8),k<=D.n/\acc.length<=k /\
   Hid ((st=0/\lin D q at_=linRun D q k acc)\/(st ≠ 0/\k=D.n/\(lin D q at_).pos D=D.n/\(lin D q at_).st 0=st/\(lin D q at_).list=[])) /\
   Hid (PS D bp A C wr k st)/\Hid (OwnB wr w.heap.size v acc)/\Hid (Kp (Only bp) w wr)) (fun _ wr => left2 D bp wr)
 case atStart => exact ⟨at_+3+nlen D (at_+3),0,[],hnl.out,by simp,.inl ⟨rfl,hx.out⟩,hp0.out,hown0.out,hk0.out⟩
 case round =>
  obtain ⟨k,st,acc,hk,hacc,hd,hp,hown,hkp⟩:=hrel;have hA':∀ a,A=some a->a.block<wr.heap.size:=fun a ha => Nat.lt_of_lt_of_le (hA a ha) hkp.out.size
  have HA':=qqh hA';clear hA';have g0:=hp.out.c0;have g1:=hp.out.c1;have g2:=hp.out.c2;have gf:=hp.out.f 1;have hsz:=hkp.out.size;rcases hd.out with ⟨hst,hd1⟩ | ⟨hst,hkn,hd1,hd2,hd3⟩
  ·subst hst;have HD:=qqh hd1;clear hd1 hd;have hcl:=D.lt k;by_cases hkn:k<D.n
   ·have hkn':¬ ((D.n:Int)<=(k:Int)):=(by omega);have hkn2:decide ((D.n:Int)<=(k:Int))=false:=qqf hkn';by_cases ht:three D q k
    ·have HT:Hid (hasB D k [q8,q8,q8]=true):=(by show _=_;rw [HT3.out k,qqt ht]);have HF:Hid (lin D q at_=.good (acc++List.replicate (more D q k) q8) (k+3+more D q k)):=(by show _=_;rw [HD.out,lin_end hkn ht,HQ8.out]);have hk2:k+2<D.n:=Doc.in_of (D:=D) (k:=k+2) (by unfold three at ht;omega);have h3b:=D.lt (k+3);have h4b:=D.lt (k+4);clear ht;by_cases h3:D.c (k+3)=q
     ·have e3:((D.c (k+3):Int) == (q:Int))=true:=(by rw [beq_iff_eq];omega);by_cases h4:D.c (k+4)=q
      ·have e4:((D.c (k+4):Int) == (q:Int))=true:=(by rw [beq_iff_eq];omega);have hm:more D q k=2:=(by unfold more;rw [if_pos h3,if_pos h4]);have hin:=Doc.in_of (D:=D) (k:=k+4) (by omega);rw [hm] at HF;clear h3 h4 hm;go_wp2_with fail
       refine (peek_c D bp A C k 0 0 _ hp.out (by omega) (by omega) (by omega)).mono ?_;rintro e w1 ⟨rfl,nq,rfl⟩;simp only [Int.toNat_zero,Nat.add_zero];go_wp2_with fail
       go_quiet (fail)
       go_wp2_with fail
       refine (has_c D bp A C k 0 [q8,q8,q8] _ (hp.out.drewN _) (by omega) (by simp) (by simp)).mono ?_;rintro e w1 ⟨rfl,nq,rfl⟩;rw [HT.out];go_wp2_with fail
       refine wp_loop_rounds 3 ?_;rw [rounds_succ];go_wp2_with fail
       refine (peek_p D bp A C k 0 (k+3) _ _ (by exact hp.out.drewN _) (by omega) (by omega) (by omega) (by omega)).mono ?_;rintro e w1 ⟨rfl,nq,rfl⟩;go_wp2_with fail
       rw [rounds_succ];go_wp2_with fail
       refine (peek_p D bp A C k 0 (k+4) _ _ (by exact hp.out.drewN _) (by omega) (by omega) (by omega) (by omega)).mono ?_;rintro e w1 ⟨rfl,nq,rfl⟩;go_wp2_with fail
       rw [rounds_succ];go_wp2_with fail
       refine wp_loop_rounds 3 ?_;rw [rounds_succ];have hl0:(acc).length+([q8]:List UInt8).length<=4294967296:=(by simp;omega);go_wp2_with (at_builtin;refine wpList_app_bytes rfl _ _ rfl w.heap.size _ (acc) [q8] rfl (by exact OwnB.alloc (hown.out.drewN _) _) wr.heap.size 0 _ rfl ?_ hl0 (by simp;omega) ?_)
       ·intro j hj;simp only [List.length_cons,List.length_nil] at hj;obtain rfl:j=0:=(by omega);rw [cell_new (by simp)];simp [HQN.out]
       intro v0 w0a hown0 hg0;have hp0:=qqh (PS.grown (st:=0) (at_:=k) (PS.alloc (hp.out.drewN _) _) (OwnB.alloc (hown.out.drewN _) _) hg0 hbl hA);have hk0:=qqh (Kp.grownOwn (S:=Only bp) (a:=w) (Kp.alloc (hkp.out.drewN _) _) (OwnB.alloc (hown.out.drewN _) _) hg0);have hown0:=qqh hown0;have hsz0:=hk0.out.size;clear hg0;go_wp2_with fail
       rw [rounds_succ];have hl1:(acc++[q8]).length+([q8]:List UInt8).length<=4294967296:=(by simp;omega);go_wp2_with (at_builtin;refine wpList_app_bytes rfl _ _ rfl w.heap.size _ (acc++[q8]) [q8] rfl (by exact OwnB.alloc hown0.out _) w0a.heap.size 0 _ rfl ?_ hl1 (by simp;omega) ?_)
       ·intro j hj;simp only [List.length_cons,List.length_nil] at hj;obtain rfl:j=0:=(by omega);rw [cell_new (by simp)];simp [HQN.out]
       intro v1 w1a hown1 hg1;have hp1:=qqh (PS.grown (st:=0) (at_:=k) (PS.alloc hp0.out _) (OwnB.alloc hown0.out _) hg1 hbl hA);have hk1:=qqh (Kp.grownOwn (S:=Only bp) (a:=w) (Kp.alloc hk0.out _) (OwnB.alloc hown0.out _) hg1);have hown1:=qqh hown1;have hsz1:=hk1.out.size;clear hg1;go_wp2_with fail
       rw [rounds_succ];have y1:=hp1.out.c1;have y2:=hp1.out.f 1;have hcv2:∀ u,(convert 22 9 v1).run Tryz.prog (w1a.setCell ⟨bp,1,none⟩ u)=.ok (.string ⟨(acc++[q8,q8]).toArray⟩) (w1a.setCell ⟨bp,1,none⟩ u):=fun u => conv_own (OwnB.put hown1.out hbl u)
       go_wp2_with fail
       go_ret;rw [HF.out];exact ⟨by simp [R.list,List.replicate],PS.setAt hp1.out _ (k+3+2) (by omega),Kp.putOnly hk1.out _⟩
      ·have e4:((D.c (k+4):Int) == (q:Int))=false:=qqn (by omega);have hm:more D q k=1:=(by unfold more;rw [if_pos h3,if_neg h4]);have hin:=Doc.in_of (D:=D) (k:=k+3) (by omega);rw [hm] at HF;clear h3 h4 hm;go_wp2_with fail
       refine (peek_c D bp A C k 0 0 _ hp.out (by omega) (by omega) (by omega)).mono ?_;rintro e w1 ⟨rfl,nq,rfl⟩;simp only [Int.toNat_zero,Nat.add_zero];go_wp2_with fail
       go_quiet (fail)
       go_wp2_with fail
       refine (has_c D bp A C k 0 [q8,q8,q8] _ (hp.out.drewN _) (by omega) (by simp) (by simp)).mono ?_;rintro e w1 ⟨rfl,nq,rfl⟩;rw [HT.out];go_wp2_with fail
       refine wp_loop_rounds 3 ?_;rw [rounds_succ];go_wp2_with fail
       refine (peek_p D bp A C k 0 (k+3) _ _ (by exact hp.out.drewN _) (by omega) (by omega) (by omega) (by omega)).mono ?_;rintro e w1 ⟨rfl,nq,rfl⟩;go_wp2_with fail
       rw [rounds_succ];go_wp2_with fail
       refine (peek_p D bp A C k 0 (k+4) _ _ (by exact hp.out.drewN _) (by omega) (by omega) (by omega) (by omega)).mono ?_;rintro e w1 ⟨rfl,nq,rfl⟩;go_wp2_with fail
       refine wp_loop_rounds 3 ?_;rw [rounds_succ];have hl0:(acc).length+([q8]:List UInt8).length<=4294967296:=(by simp;omega);go_wp2_with (at_builtin;refine wpList_app_bytes rfl _ _ rfl w.heap.size _ (acc) [q8] rfl (by exact OwnB.alloc (hown.out.drewN _) _) wr.heap.size 0 _ rfl ?_ hl0 (by simp;omega) ?_)
       ·intro j hj;simp only [List.length_cons,List.length_nil] at hj;obtain rfl:j=0:=(by omega);rw [cell_new (by simp)];simp [HQN.out]
       intro v0 w0a hown0 hg0;have hp0:=qqh (PS.grown (st:=0) (at_:=k) (PS.alloc (hp.out.drewN _) _) (OwnB.alloc (hown.out.drewN _) _) hg0 hbl hA);have hk0:=qqh (Kp.grownOwn (S:=Only bp) (a:=w) (Kp.alloc (hkp.out.drewN _) _) (OwnB.alloc (hown.out.drewN _) _) hg0);have hown0:=qqh hown0;have hsz0:=hk0.out.size;clear hg0;go_wp2_with fail
       rw [rounds_succ];have y1:=hp0.out.c1;have y2:=hp0.out.f 1;have hcv2:∀ u,(convert 22 9 v0).run Tryz.prog (w0a.setCell ⟨bp,1,none⟩ u)=.ok (.string ⟨(acc++[q8]).toArray⟩) (w0a.setCell ⟨bp,1,none⟩ u):=fun u => conv_own (OwnB.put hown0.out hbl u)
       go_wp2_with fail
       go_ret;rw [HF.out];exact ⟨by simp [R.list,List.replicate],PS.setAt hp0.out _ (k+3+1) (by omega),Kp.putOnly hk0.out _⟩
     ·have e3:((D.c (k+3):Int) == (q:Int))=false:=qqn (by omega);have hm:more D q k=0:=(by unfold more;rw [if_neg h3]);rw [hm] at HF;clear h3 hm;go_wp2_with fail
      refine (peek_c D bp A C k 0 0 _ hp.out (by omega) (by omega) (by omega)).mono ?_;rintro e w1 ⟨rfl,nq,rfl⟩;simp only [Int.toNat_zero,Nat.add_zero];go_wp2_with fail
      go_quiet (fail)
      go_wp2_with fail
      refine (has_c D bp A C k 0 [q8,q8,q8] _ (hp.out.drewN _) (by omega) (by simp) (by simp)).mono ?_;rintro e w1 ⟨rfl,nq,rfl⟩;rw [HT.out];go_wp2_with fail
      refine wp_loop_rounds 3 ?_;rw [rounds_succ];go_wp2_with fail
      refine (peek_p D bp A C k 0 (k+3) _ _ (by exact hp.out.drewN _) (by omega) (by omega) (by omega) (by omega)).mono ?_;rintro e w1 ⟨rfl,nq,rfl⟩;go_wp2_with fail
      refine wp_loop_rounds 3 ?_;rw [rounds_succ];have hcv2:∀ (nq:Nat) (u:Value),(convert 22 9 u5).run Tryz.prog ((wr.drewN nq).setCell ⟨bp,1,none⟩ u)=.ok (.string ⟨acc.toArray⟩) ((wr.drewN nq).setCell ⟨bp,1,none⟩ u):=fun nq u => conv_own (OwnB.put (hown.out.drewN nq) hbl u)
      go_wp2_with fail
      go_ret;rw [HF.out];exact ⟨by simp [R.list,List.replicate],PS.setAt (hp.out.drewN _) _ (k+3+0) (by omega),Kp.putOnly (hkp.out.drewN _) _⟩
    ·have HT:Hid (hasB D k [q8,q8,q8]=false):=(by show _=_;rw [HT3.out k,qqf ht]);by_cases hb:D.c k=92/\q=34
     ·have e92:((D.c k:Int) == 92)=true:=(by rw [beq_iff_eq];omega);have e34:((q:Int) == 34)=true:=(by rw [beq_iff_eq];omega);by_cases hl:nlen D (wsEnd D (k+1))=0
      ·have hf0:=qqh (lin_esc (acc:=acc) hkn ht hb hl);have hwle:=wsEnd_le D (k+1);have HL:Hid (decide (nlen D (wsEnd D (k+1)) ≠ 0)=false):=(by show _=_;simp [hl]);clear hb ht;go_wp2_with fail
       refine (peek_c D bp A C k 0 0 _ hp.out (by omega) (by omega) (by omega)).mono ?_;rintro e w1 ⟨rfl,nq,rfl⟩;simp only [Int.toNat_zero,Nat.add_zero];go_wp2_with fail
       go_quiet (fail)
       go_wp2_with fail
       refine (has_c D bp A C k 0 [q8,q8,q8] _ (hp.out.drewN _) (by omega) (by simp) (by simp)).mono ?_;rintro e w1 ⟨rfl,nq,rfl⟩;rw [HT.out];go_wp2_with fail
       refine (blanks_c D bp A C (k+1) 0 _ (PS.setAt (hp.out.drewN _) _ (k+1) (by omega)) (by omega)).mono ?_;rintro e w2 ⟨rfl,hp2,hk2⟩;have hown2:=OwnB.kp (OwnB.put (hown.out.drewN _) hbl _) hk2 (fun g hg hS => by have:=hown.out.lt g hg;have hS:g=bp:=hS;omega);have hk2:=Kp.trans (Kp.putOnly (hkp.out.drewN _) _) hk2;have hp2:=qqh hp2;have hown2:=qqh hown2;have hk2:=qqh hk2;go_wp2_with fail
       refine (line_c D bp A C (wsEnd D (k+1)) 0 _ hp2.out (by omega)).mono ?_;rintro e w3 ⟨rfl,hp3,hk3⟩;rw [HL.out];have hp3:Hid (PS D bp A C w3 (wsEnd D (k+1)) 0):=(by rw [hl] at hp3;exact hp3);have hown3:=qqh (OwnB.kp hown2.out hk3 (fun g hg hS => by have:=hown2.out.lt g hg;have hS:g=bp:=hS;omega));have hk3:=qqh (Kp.trans hk2.out hk3);have x1:=hp3.out.c1;have x2:=hp3.out.f 1;clear hl;go_wp2_with fail
       refine (escape_c D bp A C (k+1) 0 _ (PS.setAt hp3.out _ (k+1) (by omega)) (by omega)).mono ?_;rintro e w4 ⟨rfl,hp4,hk4⟩;have hown4:=qqh (OwnB.kp (OwnB.put hown3.out hbl _) hk4 (fun g hg hS => by have:=hown3.out.lt g hg;have hS:g=bp:=hS;omega));have hk4:=qqh (Kp.trans (Kp.putOnly hk3.out _) hk4);obtain ⟨r,hr⟩:∃ r,esc D (k+1)=r:=⟨_,rfl⟩;rw [hr] at hp4 hf0;have hp4:=qqh hp4;have HR:=qqh hr;have hb4:=qqh hk4.out.size;rw [hr];clear hr;have hll:acc.length+r.list.length<=4294967296:=by
        cases r with
        | good l k' =>
         have h1:=esc_len D _ _ _ HR.out;have h2:=esc_in D _ _ _ HR.out;show acc.length+l.length<=_;omega
        | bad => show acc.length+0<=_;omega
        | opn => show acc.length+0<=_;omega
       go_wp2_with (at_builtin;refine wpList_app_str rfl _ _ rfl w.heap.size _ acc r.list rfl hown4.out rfl hll hb4.out ?_)
       intro v' w5 hown5 hg5;have hp5:=qqh (PS.grown hp4.out hown4.out hg5 hbl hA);have hk5:=qqh (Kp.grownOwn hk4.out hown4.out hg5);have hown5:=qqh hown5;clear hg5;go_wp2_with fail
       go_roundw
       case rel =>
        cases r with
        | good l k' =>
         have h1:=esc_len D _ _ _ HR.out;have h2:=esc_in D _ _ _ HR.out;exact ⟨k',0,acc++l,by omega,by rw [qqa];omega,.inl ⟨rfl,HD.out.trans hf0.out⟩,hp5.out,hown5.out,hk5.out⟩
        | bad =>
         refine ⟨D.n,1,acc++[],by omega,by rw [List.append_nil];omega,.inr ⟨by omega,rfl,?_,?_,?_⟩,hp5.out,hown5.out,hk5.out⟩
         all_goals (have e:lin D q at_=.bad:=HD.out.trans hf0.out);rw [e];rfl
        | opn =>
         refine ⟨D.n,2,acc++[],by omega,by rw [List.append_nil];omega,.inr ⟨by omega,rfl,?_,?_,?_⟩,hp5.out,hown5.out,hk5.out⟩
         all_goals (have e:lin D q at_=.opn:=HD.out.trans hf0.out);rw [e];rfl
       case measure =>
        rw [hp.out.left2,hp5.out.left2];cases r with
        | good l k' =>
         have h2:=esc_in D _ _ _ HR.out;show 2 * (D.n - k')+_<_;simp only [R.st];omega
        | bad => show 2 * (D.n - D.n)+_<_;simp [R.st,failSt]
        | opn => show 2 * (D.n - D.n)+_<_;simp [R.st]
      ·have hf:=qqh (HD.out.trans (lin_ws (acc:=acc) hkn ht hb hl));have hwle:=wsEnd_le D (k+1);have hwge:=wsEnd_ge D (k+1);have hlin:=nlen_in hl;have HL:Hid (decide (nlen D (wsEnd D (k+1)) ≠ 0)=true):=(by show _=_;simp [hl]);obtain ⟨j0,hj0⟩:∃ j0,wsEnd D (k+1)+nlen D (wsEnd D (k+1))=j0:=⟨_,rfl⟩;have hj1:k+1<=j0:=(by omega);rw [hj0] at hf hlin;clear hb ht hl;go_wp2_with fail
       refine (peek_c D bp A C k 0 0 _ hp.out (by omega) (by omega) (by omega)).mono ?_;rintro e w1 ⟨rfl,nq,rfl⟩;simp only [Int.toNat_zero,Nat.add_zero];go_wp2_with fail
       go_quiet (fail)
       go_wp2_with fail
       refine (has_c D bp A C k 0 [q8,q8,q8] _ (hp.out.drewN _) (by omega) (by simp) (by simp)).mono ?_;rintro e w1 ⟨rfl,nq,rfl⟩;rw [HT.out];go_wp2_with fail
       refine (blanks_c D bp A C (k+1) 0 _ (PS.setAt (hp.out.drewN _) _ (k+1) (by omega)) (by omega)).mono ?_;rintro e w2 ⟨rfl,hp2,hk2⟩;have hown2:=OwnB.kp (OwnB.put (hown.out.drewN _) hbl _) hk2 (fun g hg hS => by have:=hown.out.lt g hg;have hS:g=bp:=hS;omega);have hk2:=Kp.trans (Kp.putOnly (hkp.out.drewN _) _) hk2;have hp2:=qqh hp2;have hown2:=qqh hown2;have hk2:=qqh hk2;go_wp2_with fail
       refine (line_c D bp A C (wsEnd D (k+1)) 0 _ hp2.out (by omega)).mono ?_;rintro e w3 ⟨rfl,hp3,hk3⟩;rw [HL.out];rw [hj0] at hp3;have hown3:=qqh (OwnB.kp hown2.out hk3 (fun g hg hS => by have:=hown2.out.lt g hg;have hS:g=bp:=hS;omega));have hk3:=qqh (Kp.trans hk2.out hk3);have hp3:=qqh hp3;clear hj0;go_wp2_with fail
       go_loopw [137] (fun _ wi => ∃ j,k+1<=j/\j<=D.n/\Hid (wsl D j0=wsl D j)/\Hid (PS D bp A C wi j 0)/\Hid (OwnB wi w.heap.size u5 acc)/\Hid (Kp (Only bp) w wi)) (fun _ wi => left D bp wi)
       case atStart => exact ⟨j0,hj1,hlin,rfl,hp3,hown3,hk3⟩
       case round =>
        obtain ⟨j,hjk,hjn,hwd,hpi,howni,hki⟩:=hrel;have hwle2:=wsEnd_le D j;have hwge2:=wsEnd_ge D j;go_wp2_with fail
        refine (blanks_c D bp A C j 0 _ hpi.out (by omega)).mono ?_;rintro e w4 ⟨rfl,hp4,hk4⟩;have hown4:=qqh (OwnB.kp howni.out hk4 (fun g hg hS => by have:=howni.out.lt g hg;have hS:g=bp:=hS;omega));have hk4:=qqh (Kp.trans hki.out hk4);have hp4:=qqh hp4;go_wp2_with fail
        refine (line_c D bp A C (wsEnd D j) 0 _ hp4.out (by omega)).mono ?_;rintro e w5 ⟨rfl,hp5,hk5⟩;have hown5:=qqh (OwnB.kp hown4.out hk5 (fun g hg hS => by have:=hown4.out.lt g hg;have hS:g=bp:=hS;omega));have hk5:=qqh (Kp.trans hk4.out hk5);have hp5:=qqh hp5;by_cases hn:nlen D (wsEnd D j)=0
        ·have hp5':Hid (PS D bp A C w5 (wsEnd D j) 0):=(by have:=hp5.out;rw [hn] at this;exact this);have hw2:Hid (wsl D j0=wsEnd D j):=(by show _=_;rw [hwd.out,wsl,dif_pos hn]);have HE:Hid (decide (nlen D (wsEnd D j) ≠ 0)=false):=(by show _=_;simp [hn]);rw [HE.out];clear hn;go_wp2_with fail
         go_roundw
         case rel => exact ⟨wsEnd D j,0,acc,by omega,by omega,.inl ⟨rfl,by rw [<- hw2.out];exact hf.out⟩,hp5'.out,hown5.out,hk5.out⟩
         case measure => rw [hp.out.left2,hp5'.out.left2];omega
        ·have hin:=nlen_in hn;have hw2:Hid (wsl D j0=wsl D (wsEnd D j+nlen D (wsEnd D j))):=(by show _=_;rw [hwd.out,wsl,dif_neg hn]);have HE:Hid (decide (nlen D (wsEnd D j) ≠ 0)=true):=(by show _=_;simp [hn]);rw [HE.out];go_wp2_with fail
         go_roundw
         case rel => exact ⟨wsEnd D j+nlen D (wsEnd D j),by omega,hin,hw2.out,hp5.out,hown5.out,hk5.out⟩
         case measure => rw [hpi.out.left,hp5.out.left];omega
     ·have he:((D.c k:Int) == 92)=false\/(((D.c k:Int) == 92)=true/\((q:Int) == 34)=false):=by
       by_cases h92:D.c k=92
       ·exact .inr ⟨by rw [beq_iff_eq];omega,qqn (by omega)⟩
       ·exact .inl (qqn (by omega))
      by_cases h10:D.c k=10
      ·have HN:Hid (hasB D k [10]=true):=(by show _=_;rw [has_nl];simp [h10]);have hf:Hid (lin D q at_=linRun D q (k+1) (acc++[10])):=(by show _=_;rw [HD.out,lin_nl hkn ht hb h10]);clear ht hb h10;rcases he with he | ⟨he,he2⟩
       all_goals
        go_wp2_with fail
        refine (peek_c D bp A C k 0 0 _ hp.out (by omega) (by omega) (by omega)).mono ?_;rintro e w1 ⟨rfl,nq,rfl⟩;simp only [Int.toNat_zero,Nat.add_zero];go_wp2_with fail
        go_quiet (fail)
        go_wp2_with fail
        refine (has_c D bp A C k 0 [q8,q8,q8] _ (hp.out.drewN _) (by omega) (by simp) (by simp)).mono ?_;rintro e w1 ⟨rfl,nq,rfl⟩;rw [HT.out];go_wp2_with fail
        refine (has_c D bp A C k 0 [10] _ (hp.out.drewN _) (by omega) (by simp) (by simp)).mono ?_;rintro e w1 ⟨rfl,nq,rfl⟩;rw [HN.out];have hll:acc.length+([10]:List UInt8).length<=4294967296:=(by simp;omega);go_wp2_with (at_builtin;refine wpList_app_bytes rfl _ _ rfl w.heap.size _ acc [10] rfl (by exact OwnB.alloc (hown.out.drewN _) _) wr.heap.size 0 _ rfl ?_ hll (by simp;omega) ?_)
        ·intro j hj;simp only [List.length_cons,List.length_nil] at hj;obtain rfl:j=0:=(by omega);rw [cell_new (by simp)];rfl
        intro v' w3 hown3 hg3;have hp3:=qqh (PS.grown (st:=0) (at_:=k) (PS.alloc (hp.out.drewN _) _) (OwnB.alloc (hown.out.drewN _) _) hg3 hbl hA);have hk3:=qqh (Kp.grownOwn (S:=Only bp) (a:=w) (Kp.alloc (hkp.out.drewN _) _) (OwnB.alloc (hown.out.drewN _) _) hg3);have hown3:=qqh hown3;have y1:=hp3.out.c1;have y2:=hp3.out.f 1;clear hg3;go_wp2_with fail
        go_roundw
        case rel => exact ⟨k+1,0,acc++[10],by omega,by rw [qqa,List.length_singleton];omega,.inl ⟨rfl,hf.out⟩,PS.setAt hp3.out _ (k+1) (by omega),OwnB.put hown3.out hbl _,Kp.putOnly hk3.out _⟩
        case measure => rw [hp.out.left2,(PS.setAt hp3.out _ (k+1) (by omega)).left2];omega
      ·have HN:Hid (hasB D k [10]=false):=(by show _=_;rw [has_nl];simp [h10]);by_cases h13:D.c k=13/\D.c (k+1)=10
       ·have HN2:Hid (hasB D k [13,10]=true):=(by show _=_;rw [has_crnl];simp [h13]);have hf:Hid (lin D q at_=linRun D q (k+2) (acc++[13,10])):=(by show _=_;rw [HD.out,lin_crnl hkn ht hb h10 h13]);have hin2:=Doc.in_of (D:=D) (k:=k+1) (by omega);clear ht hb h10 h13;rcases he with he | ⟨he,he2⟩
        all_goals
         go_wp2_with fail
         refine (peek_c D bp A C k 0 0 _ hp.out (by omega) (by omega) (by omega)).mono ?_;rintro e w1 ⟨rfl,nq,rfl⟩;simp only [Int.toNat_zero,Nat.add_zero];go_wp2_with fail
         go_quiet (fail)
         go_wp2_with fail
         refine (has_c D bp A C k 0 [q8,q8,q8] _ (hp.out.drewN _) (by omega) (by simp) (by simp)).mono ?_;rintro e w1 ⟨rfl,nq,rfl⟩;rw [HT.out];go_wp2_with fail
         refine (has_c D bp A C k 0 [10] _ (hp.out.drewN _) (by omega) (by simp) (by simp)).mono ?_;rintro e w1 ⟨rfl,nq,rfl⟩;rw [HN.out];go_wp2_with fail
         refine (has_c D bp A C k 0 [13,10] _ (hp.out.drewN _) (by omega) (by simp) (by simp)).mono ?_;rintro e w1 ⟨rfl,nq,rfl⟩;rw [HN2.out];have hll:acc.length+([13,10]:List UInt8).length<=4294967296:=(by simp;omega);go_wp2_with (at_builtin;refine wpList_app_bytes rfl _ _ rfl w.heap.size _ acc [13,10] rfl (by exact OwnB.alloc (hown.out.drewN _) _) wr.heap.size 0 _ rfl ?_ hll (by simp;omega) ?_)
         ·intro j hj;simp only [List.length_cons,List.length_nil] at hj;rw [cell_new (by simp)];obtain rfl | rfl:j=0\/j=1:=by omega
          ·rfl
          ·rfl
         intro v' w3 hown3 hg3;have hp3:=qqh (PS.grown (st:=0) (at_:=k) (PS.alloc (hp.out.drewN _) _) (OwnB.alloc (hown.out.drewN _) _) hg3 hbl hA);have hk3:=qqh (Kp.grownOwn (S:=Only bp) (a:=w) (Kp.alloc (hkp.out.drewN _) _) (OwnB.alloc (hown.out.drewN _) _) hg3);have hown3:=qqh hown3;have y1:=hp3.out.c1;have y2:=hp3.out.f 1;clear hg3;go_wp2_with fail
         go_roundw
         case rel => exact ⟨k+2,0,acc++[13,10],by omega,by rw [qqa,show ([13,10]:List UInt8).length=2 from rfl];omega,.inl ⟨rfl,hf.out⟩,PS.setAt hp3.out _ (k+2) (by omega),OwnB.put hown3.out hbl _,Kp.putOnly hk3.out _⟩
         case measure => rw [hp.out.left2,(PS.setAt hp3.out _ (k+2) (by omega)).left2];omega
       ·have HN2:Hid (hasB D k [13,10]=false):=(by show _=_;rw [has_crnl];simp [h13]);by_cases hsg:sg D k=0
        ·have hf:Hid (lin D q at_=.bad):=(by show _=_;rw [HD.out,lin_bad hkn ht hb h10 h13 hsg]);have e1:Hid ((if sg D k=0 then 1 else sg D k)=1):=(by show _=_;rw [if_pos hsg]);have e2:Hid (decide (sg D k ≠ 0)=false):=(by show _=_;simp [hsg]);clear ht hb h10 h13 hsg;rcases he with he | ⟨he,he2⟩
         all_goals
          go_wp2_with fail
          refine (peek_c D bp A C k 0 0 _ hp.out (by omega) (by omega) (by omega)).mono ?_;rintro e w1 ⟨rfl,nq,rfl⟩;simp only [Int.toNat_zero,Nat.add_zero];go_wp2_with fail
          go_quiet (fail)
          go_wp2_with fail
          refine (has_c D bp A C k 0 [q8,q8,q8] _ (hp.out.drewN _) (by omega) (by simp) (by simp)).mono ?_;rintro e w1 ⟨rfl,nq,rfl⟩;rw [HT.out];go_wp2_with fail
          refine (has_c D bp A C k 0 [10] _ (hp.out.drewN _) (by omega) (by simp) (by simp)).mono ?_;rintro e w1 ⟨rfl,nq,rfl⟩;rw [HN.out];go_wp2_with fail
          refine (has_c D bp A C k 0 [13,10] _ (hp.out.drewN _) (by omega) (by simp) (by simp)).mono ?_;rintro e w1 ⟨rfl,nq,rfl⟩;rw [HN2.out];go_wp2_with fail
          refine (sign_c D bp A C k 0 _ (hp.out.drewN _) (by omega)).mono ?_;rintro e w2 ⟨rfl,hk2⟩;rw [e1.out,e2.out];have hp2:=qqh ((hp.out.drewN _).kpNil hk2);have hk2:=qqh (Kp.nil (hkp.out.drewN _) hk2);go_wp2_with fail
          refine (fail_c D bp A C k 0 _ hp2.out).mono ?_;rintro e w3 ⟨rfl,hp3,hk3⟩;have hp3:=qqh hp3;have hk3:=qqh (Kp.trans hk2.out hk3);go_wp2_with fail
          go_ret;rw [hf.out];exact ⟨rfl,hp3.out,hk3.out⟩
        ·have hin:=sg_in D k hsg;have hle:=sg_le D k;have hf:Hid (lin D q at_=linRun D q (k+sg D k) (acc++D.sub k (sg D k))):=(by show _=_;rw [HD.out,lin_go hkn ht hb h10 h13 hsg]);have e1:Hid ((if sg D k=0 then 1 else sg D k)=sg D k):=(by show _=_;rw [if_neg hsg]);have e2:Hid (decide (sg D k ≠ 0)=true):=(by show _=_;simp [hsg]);obtain ⟨m,hm⟩:∃ m,sg D k=m:=⟨_,rfl⟩;rw [hm] at e1 e2 hf hin hle hsg;have HM:=qqh hm;have hm1:1<=m:=(by omega);obtain ⟨bd,o,hAe,hc⟩:=hp.out.byte hkn;have hC1:=hp.out.doc.1;have hC2:=hp.out.doc.2.1;have hneC:¬ C=k:=(by omega);clear hc;clear ht hb h10 h13 hsg hm;rcases he with he | ⟨he,he2⟩
         all_goals
          go_wp2_with fail
          refine (peek_c D bp A C k 0 0 _ hp.out (by omega) (by omega) (by omega)).mono ?_;rintro e w1 ⟨rfl,nq,rfl⟩;simp only [Int.toNat_zero,Nat.add_zero];go_wp2_with fail
          go_quiet (fail)
          go_wp2_with fail
          refine (has_c D bp A C k 0 [q8,q8,q8] _ (hp.out.drewN _) (by omega) (by simp) (by simp)).mono ?_;rintro e w1 ⟨rfl,nq,rfl⟩;rw [HT.out];go_wp2_with fail
          refine (has_c D bp A C k 0 [10] _ (hp.out.drewN _) (by omega) (by simp) (by simp)).mono ?_;rintro e w1 ⟨rfl,nq,rfl⟩;rw [HN.out];go_wp2_with fail
          refine (has_c D bp A C k 0 [13,10] _ (hp.out.drewN _) (by omega) (by simp) (by simp)).mono ?_;rintro e w1 ⟨rfl,nq,rfl⟩;rw [HN2.out];go_wp2_with fail
          refine (sign_c D bp A C k 0 _ (hp.out.drewN _) (by omega)).mono ?_;rintro e w2 ⟨rfl,hk2⟩;rw [HM.out,e1.out,e2.out];have hp2:=qqh ((hp.out.drewN _).kpNil hk2);have hown2:=qqh (OwnB.kp (hown.out.drewN _) hk2 (fun _ _ x => x));have hk2:=qqh (Kp.nil (hkp.out.drewN _) hk2);have hb2:=qqh hk2.out.size;have z0:=hp2.out.c0;have z1:=hp2.out.c1;rw [hAe] at z0;go_wp2_with fail
          have v1:IntKind.i64.wrap ((k:Int)+(m:Int))=(k:Int)+(m:Int):=IntWalk.i64_in _ (by omega);have v2:((k:Int)+(m:Int)).toNat=k+m:=(by omega);have v3:∀ w',(Instr.slice 22 (.slice (some ⟨bd,o,none⟩) D.n C) (some (.int .i64 (k:Int))) (some (.int .i64 ((k:Int)+(m:Int)))) none).run Tryz.prog w'=.ok (.slice (some ⟨bd,o+k,none⟩) m (C - k)) w':=slice_lh bd o D.n C _ _ k m rfl (by omega) (by omega) (by omega)
          go_still_tail 16,(by kernel_rfl)
          clear v1 v2 v3;change wpList _ _ _ _ _ w2.drew;have hll:acc.length+(D.sub k m).length<=4294967296:=(by rw [Doc.sub_length];omega);go_wp2_with (at_builtin;refine wpList_app_bytes rfl _ _ rfl w.heap.size _ acc (D.sub k m) rfl hown2.out.drew bd (o+k) _ (by rw [Doc.sub_length];rfl) (sub_cells (w:=w2.drew) (hp2.out.bytesAt hAe) hin) hll hb2.out ?_)
          intro v' w3 hown3 hg3;have hp3:=qqh (PS.grown (st:=0) (at_:=k) hp2.out.drew hown2.out.drew hg3 hbl hA);have hk3:=qqh (Kp.grownOwn (S:=Only bp) (a:=w) hk2.out.drew hown2.out.drew hg3);have hown3:=qqh hown3;have y1:=hp3.out.c1;have y2:=hp3.out.f 1;clear hg3;go_wp2_with fail
          go_roundw
          case rel => exact ⟨k+m,0,acc++D.sub k m,by omega,by rw [qqa,Doc.sub_length];omega,.inl ⟨rfl,hf.out⟩,PS.setAt hp3.out _ (k+m) (by omega),OwnB.put hown3.out hbl _,Kp.putOnly hk3.out _⟩
          case measure => rw [hp.out.left2,(PS.setAt hp3.out _ (k+m) (by omega)).left2];omega
   ·have hf:Hid (lin D q at_=.bad):=(by show _=_;rw [HD.out,lin_stop (by omega)]);have hkn2:decide ((D.n:Int)<=(k:Int))=true:=qqt (by omega);go_wp2_with fail
    refine (peek_c D bp A C k 0 0 _ hp.out (by omega) (by omega) (by omega)).mono ?_;rintro e w1 ⟨rfl,nq,rfl⟩;simp only [Int.toNat_zero,Nat.add_zero];go_wp2_with fail
    go_quiet (fail)
    go_wp2_with fail
    refine (fail_c D bp A C k 0 _ (hp.out.drewN _)).mono ?_;rintro e w2 ⟨rfl,hp2,hk2⟩;have hown2:=qqh (OwnB.kp (hown.out.drewN _) hk2 (fun g hg hS => by have:=hown.out.lt g hg;have hS:g=bp:=hS;omega));have hp2:=qqh hp2;have hk2:=qqh (Kp.trans (hkp.out.drewN _) hk2);go_wp2_with fail
    go_roundw
    case rel =>
     refine ⟨D.n,1,acc,by omega,by omega,.inr ⟨by omega,rfl,?_,?_,?_⟩,hp2.out,hown2.out,hk2.out⟩
     all_goals (rw [hf.out];rfl)
    case measure => rw [hp.out.left2,hp2.out.left2];simp [failSt]
  ·have g2':((st:Int) == 0)=false:=qqn (by omega);go_wp2_with fail
   go_ret;subst hkn;rw [hd1,hd2,hd3];exact ⟨rfl,hp.out,hkp.out⟩
end Go.Proofs.YtpgmddjgcgpoeaaGreat
