/-
  A part of the proof.
-/
import Derived.Test.YtpgmddjgcgpoeaaGreatD09
import Derived.Test.YtpgmddjgcgpoeaaGreatD02
import Derived.Lib.SlBytesConst
set_option linter.unusedVariables false
set_option linter.unusedSimpArgs false
set_option maxRecDepth 100000
set_option maxHeartbeats 8000000
namespace Go.Proofs.YtpgmddjgcgpoeaaGreat
open Go.RowKit
theorem cell_new {w:World} {b:Nat} (hb:b=w.heap.size) (X:Array Value) (t:TypeId) (fr:Nat × Nat) (j:Nat):(w.alloc (.cells X t fr)).cell? ⟨b,j,none⟩=X[j]?:=by subst hb;exact World.cell?_alloc_mark w X t fr j
theorem or16 (x y:Int) (h0:0<=x) (h1:x<1099511627776) (h2:0<=y) (h3:y<16):bits .or .i64 (x * 16) y=x * 16+y :=
 bits_join .i64 62 (by decide) (fun n hn0 hn1 => IntWalk.i64_in n (by omega)) 4 (x * 16) y (by omega) (by omega) (by omega) h2 (by omega) (by omega)
theorem wp_at {P:Program} {c:Code} {Q:Exit->Act->World->Prop} {a:Act} {w:World} (F:World->Prop) (hF:F w) (h:∀ W,F W->c.wp P Q a W):c.wp P Q a w:=h w hF
theorem escape_a (D:Doc) (bp:Nat) (A:Option Addr) (C:Nat) (at_ st:Nat) (w:World) (hp:PS D bp A C w at_ st) (hat:at_<=1073741900) (hb:escB (D.c at_) ≠ 0) :
  Calls Tryz.prog 68 #[.pointer (some ⟨bp,0,none⟩)] w fun e w' => e=.returned (.string ⟨[UInt8.ofNat (escB (D.c at_))].toArray⟩)/\PS D bp A C w' (at_+1) st/\Kp (Only bp) w w':=by
 have hs:=D.small;have HP:=qqh hp;have h1:=hp.c1;have f1:=hp.f 1;clear hp;unfold escB at hb ⊢;have kc:∀ (nq:Nat) (v:Value) (X:Array Value) (n c:Nat),(convert 22 22 (.slice (some ⟨w.heap.size,0,none⟩) n c)).run Tryz.prog (((w.drewN nq).setCell ⟨bp,1,none⟩ v).alloc (.cells X 5))=.ok (.slice (some ⟨w.heap.size,0,none⟩) n c) (((w.drewN nq).setCell ⟨bp,1,none⟩ v).alloc (.cells X 5 (X.size,X.size+1))):=fun nq v X n c => by
  have h:=Lib.run_convert_bytes_const (P:=Tryz.prog) ((w.drewN nq).setCell ⟨bp,1,none⟩ v) 22 5 X n c Tryz.underlying22 Tryz.underlying5;simpa using h
 rcases (show D.c at_=98\/D.c at_=116\/D.c at_=110\/D.c at_=102\/D.c at_=114\/D.c at_=34\/D.c at_=92 by revert hb;(repeat' split) <;> omega) with h | h | h | h | h | h | h
 all_goals
  rw [h];clear hb;go_enter Tryz.func68,Tryz.ntmps68;go_wp2_with fail
  refine (peek_c D bp A C at_ st 0 _ HP.out (by omega) (by omega) (by omega)).mono ?_;rintro e w1 ⟨rfl,nq,rfl⟩;simp only [Int.toNat_zero,Nat.add_zero];go_wp2_with fail
  refine wp_at (fun W => (W.cell? ⟨w.heap.size,0,none⟩=some (.int .u8 98)/\W.cell? ⟨w.heap.size,1,none⟩=some (.int .u8 116)/\W.cell? ⟨w.heap.size,2,none⟩=some (.int .u8 110)/\W.cell? ⟨w.heap.size,3,none⟩=some (.int .u8 102)
   /\ W.cell? ⟨w.heap.size,4,none⟩=some (.int .u8 114)/\W.cell? ⟨w.heap.size,5,none⟩=some (.int .u8 34)/\W.cell? ⟨w.heap.size,6,none⟩=some (.int .u8 92))/\Hid (PS D bp A C W (at_+1) st/\Kp (Only bp) w W)) ⟨?_,PS.alloc (PS.setAt (HP.out.drewN _) _ (at_+1) (by omega)) _,Kp.alloc (Kp.putOnly ((Kp.refl _ _).drewN _) _) _⟩ ?_
  ·refine ⟨?_,?_,?_,?_,?_,?_,?_⟩ <;> (rw [cell_new (by simp)];rfl)
  rintro W ⟨⟨z0,z1,z2,z3,z4,z5,z6⟩,HW⟩;refine wp_loop_rounds 8 ?_
  iterate 7 (first | (rw [rounds_succ];go_wp2_with fail) | skip)
  go_ret;exact ⟨rfl,HW.out.1,HW.out.2⟩
theorem dval_lt {x b:Nat} (hb:b<=16) (h:dval x<b):(48<=x/\x<=57/\dval x=x - 48)\/(97<=x/\x<=102/\dval x=x - 87)\/(65<=x/\x<=70/\dval x=x - 55):=by
 unfold dval at h ⊢;split
 ·omega
 split
 ·omega
 split
 ·omega
 ·rename_i h1 h2 h3;rw [if_neg h1,if_neg h2,if_neg h3] at h;omega
theorem dgN_get (D:Doc) (base:Nat) (k m j:Nat) (h:m<=dgN D base k) (hj:j<m):dval (D.c (k+j))<base:=by
 induction m generalizing k j with
 | zero => omega
 | succ m ih =>
  rw [dgN] at h;split at h
  ·rename_i hc;cases j with
   | zero => exact hc.1
   | succ j =>
    have:=ih (k+1) j (by omega) (by omega);rw [show k+(j+1)=k+1+j by omega];exact this
  ·omega
theorem escape_b (D:Doc) (bp:Nat) (A:Option Addr) (C:Nat) (at_ st:Nat) (w:World) (hp:PS D bp A C w at_ st) (hat:at_<=1073741900) (hb:escB (D.c at_)=0) :
  Calls Tryz.prog 68 #[.pointer (some ⟨bp,0,none⟩)] w fun e w' => e=.returned (.string ⟨(esc D at_).list.toArray⟩)/\PS D bp A C w' ((esc D at_).pos D) ((esc D at_).st st)/\Kp (Only bp) w w':=by
 have hs:=D.small;have HP:=qqh hp;have h1:=hp.c1;have f1:=hp.f 1;have hcl:=D.lt at_;clear hp;have kc:∀ (nq:Nat) (v:Value) (X:Array Value) (n c:Nat),(convert 22 22 (.slice (some ⟨w.heap.size,0,none⟩) n c)).run Tryz.prog (((w.drewN nq).setCell ⟨bp,1,none⟩ v).alloc (.cells X 5))=.ok (.slice (some ⟨w.heap.size,0,none⟩) n c) (((w.drewN nq).setCell ⟨bp,1,none⟩ v).alloc (.cells X 5 (X.size,X.size+1))):=fun nq v X n c => by
  have h:=Lib.run_convert_bytes_const (P:=Tryz.prog) ((w.drewN nq).setCell ⟨bp,1,none⟩ v) 22 5 X n c Tryz.underlying22 Tryz.underlying5;simpa using h
 have hne:D.c at_ ≠ 98/\D.c at_ ≠ 116/\D.c at_ ≠ 110/\D.c at_ ≠ 102/\D.c at_ ≠ 114/\D.c at_ ≠ 34/\D.c at_ ≠ 92:=by revert hb;unfold escB;(repeat' split) <;> omega
 obtain ⟨n1,n2,n3,n4,n5,n6,n7⟩:=hne;have e1:((D.c at_:Int) == 98)=false:=qqn (by omega);have e2:((D.c at_:Int) == 116)=false:=qqn (by omega);have e3:((D.c at_:Int) == 110)=false:=qqn (by omega);have e4:((D.c at_:Int) == 102)=false:=qqn (by omega);have e5:((D.c at_:Int) == 114)=false:=qqn (by omega);have e6:((D.c at_:Int) == 34)=false:=qqn (by omega);have e7:((D.c at_:Int) == 92)=false:=qqn (by omega);have hE0:Hid (esc D at_=if D.c at_=101\/D.c at_=120 then .opn else if escM (D.c at_)=0 then .bad else if dgN D 16 (at_+1)<escM (D.c at_) then .bad
  else if escV D (at_+1) 0 (escM (D.c at_)) > 1114111\/55296<=escV D (at_+1) 0 (escM (D.c at_))/\escV D (at_+1) 0 (escM (D.c at_))<57344 then .bad
  else .good (encU (escV D (at_+1) 0 (escM (D.c at_)))) (at_+1+escM (D.c at_))):=by
  show _=_;unfold esc;rw [if_neg (by omega)]
 clear hb n1 n2 n3 n4 n5 n6 n7;by_cases hx:D.c at_=101\/D.c at_=120
 ·have hE:Hid (esc D at_=.opn):=by show _=_;rw [hE0.out,if_pos hx]
  rw [hE.out];clear hE hE0 e1 e2 e3 e4 e5 e6 e7;rcases hx with hx | hx
  all_goals
   go_enter Tryz.func68,Tryz.ntmps68;go_wp2_with fail
   refine (peek_c D bp A C at_ st 0 _ HP.out (by omega) (by omega) (by omega)).mono ?_;rintro e w1 ⟨rfl,nq,rfl⟩;simp only [Int.toNat_zero,Nat.add_zero];go_wp2_with fail
   refine wp_at (fun W => (W.cell? ⟨w.heap.size,0,none⟩=some (.int .u8 98)/\W.cell? ⟨w.heap.size,1,none⟩=some (.int .u8 116)/\W.cell? ⟨w.heap.size,2,none⟩=some (.int .u8 110)/\W.cell? ⟨w.heap.size,3,none⟩=some (.int .u8 102)
    /\ W.cell? ⟨w.heap.size,4,none⟩=some (.int .u8 114)/\W.cell? ⟨w.heap.size,5,none⟩=some (.int .u8 34)/\W.cell? ⟨w.heap.size,6,none⟩=some (.int .u8 92))/\Hid (PS D bp A C W (at_+1) st/\Kp (Only bp) w W)) ⟨?_,PS.alloc (PS.setAt (HP.out.drewN _) _ (at_+1) (by omega)) _,Kp.alloc (Kp.putOnly ((Kp.refl _ _).drewN _) _) _⟩ ?_
   ·refine ⟨?_,?_,?_,?_,?_,?_,?_⟩ <;> (rw [cell_new (by simp)];rfl)
   rintro W ⟨⟨z0,z1,z2,z3,z4,z5,z6⟩,HW⟩;refine wp_loop_rounds 8 ?_
   iterate 8 (first | (rw [rounds_succ];go_wp2_with fail) | skip)
   refine (open_c D bp A C (at_+1) st _ HW.out.1).mono ?_;rintro e w2 ⟨rfl,hp2,hk2⟩;have hp2:=qqh hp2;have hk2:=qqh hk2
   go_wp2
   go_ret;exact ⟨rfl,hp2.out,HW.out.2.trans hk2.out⟩
 ·have x1:((D.c at_:Int) == 101)=false:=qqn (by omega);have x2:((D.c at_:Int) == 120)=false:=qqn (by omega);by_cases hM:D.c at_=117\/D.c at_=85
  ·obtain ⟨n,hn⟩:∃ n,escM (D.c at_)=n:=⟨_,rfl⟩;have hn0:n=4\/n=8:=(by rw [<- hn];unfold escM;rcases hM with h | h <;> simp [h]);rw [hn] at hE0;by_cases hd:dgN D 16 (at_+1)<n
   ·have hE:Hid (esc D at_=.bad):=(by show _=_;rw [hE0.out,if_neg hx,if_neg (by omega),if_pos hd]);rw [hE.out];clear hE hE0;have hgl:=dgN_le D 16 (at_+1);obtain ⟨g,hg⟩:∃ g,dgN D 16 (at_+1)=g:=⟨_,rfl⟩;rw [hg] at hd hgl;have HG:=qqh hg;clear hg hx;rcases hM with hM | hM
    all_goals
     have h4:n=escM (D.c at_):=hn.symm;rw [hM] at h4;simp [escM] at h4;subst h4;clear hn hn0;go_enter Tryz.func68,Tryz.ntmps68;go_wp2_with fail
     refine (peek_c D bp A C at_ st 0 _ HP.out (by omega) (by omega) (by omega)).mono ?_;rintro e w1 ⟨rfl,nq,rfl⟩;simp only [Int.toNat_zero,Nat.add_zero];go_wp2_with fail
     refine wp_at (fun W => (W.cell? ⟨w.heap.size,0,none⟩=some (.int .u8 98)/\W.cell? ⟨w.heap.size,1,none⟩=some (.int .u8 116)/\W.cell? ⟨w.heap.size,2,none⟩=some (.int .u8 110)/\W.cell? ⟨w.heap.size,3,none⟩=some (.int .u8 102)
      /\ W.cell? ⟨w.heap.size,4,none⟩=some (.int .u8 114)/\W.cell? ⟨w.heap.size,5,none⟩=some (.int .u8 34)/\W.cell? ⟨w.heap.size,6,none⟩=some (.int .u8 92))/\Hid (PS D bp A C W (at_+1) st/\Kp (Only bp) w W)) ⟨?_,PS.alloc (PS.setAt (HP.out.drewN _) _ (at_+1) (by omega)) _,Kp.alloc (Kp.putOnly ((Kp.refl _ _).drewN _) _) _⟩ ?_
     ·refine ⟨?_,?_,?_,?_,?_,?_,?_⟩ <;> (rw [cell_new (by simp)];rfl)
     rintro W ⟨⟨z0,z1,z2,z3,z4,z5,z6⟩,HW⟩;refine wp_loop_rounds 8 ?_
     iterate 8 (first | (rw [rounds_succ];go_wp2_with fail) | skip)
     refine (digits_p D bp A C (at_+1) st (at_+1) 16 _ _ _ (by exact HW.out.1) (by omega) (by omega) (by omega) rfl (by omega) (by omega)).mono ?_;rintro e w2 ⟨rfl,nq2,rfl⟩;rw [HG.out];go_wp2_with fail
     refine (fail_c D bp A C (at_+1) st _ (HW.out.1.drewN _)).mono ?_;rintro e w2 ⟨rfl,hp2,hk2⟩;have hp2:=qqh hp2;have hk2:=qqh hk2
     go_wp2
     go_ret;exact ⟨rfl,hp2.out,(HW.out.2.drewN _).trans hk2.out⟩
   ·have hgl:=dgN_le D 16 (at_+1);have hget:=qqh (dgN_get D 16 (at_+1) n);obtain ⟨g,hg⟩:∃ g,dgN D 16 (at_+1)=g:=⟨_,rfl⟩;rw [hg] at hd hgl hE0 hget;have HG:=qqh hg;clear hg;obtain ⟨v,hv⟩:∃ v,escV D (at_+1) 0 n=v:=⟨_,rfl⟩;rw [hv] at hE0;have HV:=qqh hv;clear hv;have hE1:Hid (esc D at_=if v > 1114111\/55296<=v/\v<57344 then .bad else .good (encU v) (at_+1+n)):=by
     show _=_;rw [hE0.out,if_neg hx,if_neg (by omega),if_neg hd]
    clear hE0 hx;rcases hM with hM | hM
    ·have h4:n=escM (D.c at_):=hn.symm;rw [hM] at h4;simp [escM] at h4;subst h4;clear hn hn0;go_enter Tryz.func68,Tryz.ntmps68;go_wp2_with fail
     refine (peek_c D bp A C at_ st 0 _ HP.out (by omega) (by omega) (by omega)).mono ?_;rintro e w1 ⟨rfl,nq,rfl⟩;simp only [Int.toNat_zero,Nat.add_zero];go_wp2_with fail
     refine wp_at (fun W => (W.cell? ⟨w.heap.size,0,none⟩=some (.int .u8 98)/\W.cell? ⟨w.heap.size,1,none⟩=some (.int .u8 116)/\W.cell? ⟨w.heap.size,2,none⟩=some (.int .u8 110)/\W.cell? ⟨w.heap.size,3,none⟩=some (.int .u8 102)
      /\ W.cell? ⟨w.heap.size,4,none⟩=some (.int .u8 114)/\W.cell? ⟨w.heap.size,5,none⟩=some (.int .u8 34)/\W.cell? ⟨w.heap.size,6,none⟩=some (.int .u8 92))/\Hid (PS D bp A C W (at_+1) st/\Kp (Only bp) w W)) ⟨?_,PS.alloc (PS.setAt (HP.out.drewN _) _ (at_+1) (by omega)) _,Kp.alloc (Kp.putOnly ((Kp.refl _ _).drewN _) _) _⟩ ?_
     ·refine ⟨?_,?_,?_,?_,?_,?_,?_⟩ <;> (rw [cell_new (by simp)];rfl)
     rintro W ⟨⟨z0,z1,z2,z3,z4,z5,z6⟩,HW⟩;refine wp_loop_rounds 8 ?_
     iterate 8 (first | (rw [rounds_succ];go_wp2_with fail) | skip)
     refine (digits_p D bp A C (at_+1) st (at_+1) 16 _ _ _ (by exact HW.out.1) (by omega) (by omega) (by omega) rfl (by omega) (by omega)).mono ?_;rintro e w2 ⟨rfl,nq2,rfl⟩;rw [HG.out];go_wp2_with fail
     go_loopw [7,59] (fun t i wr => ∃ x j nq:Nat,t=.int .i64 x/\i=.int .i64 j/\j<=4/\Hid (x<16 ^ j)/\Hid (escV D (at_+1) 0 4=escV D (at_+1+j) x (4 - j))/\Hid (wr=W.drewN nq)) (fun _ i _ => 4 - (intOf i).toNat)
     case atStart => exact ⟨0,0,nq2,rfl,rfl,by omega,by show _<_;simp,rfl,by show _=_;rfl⟩
     case round =>
      obtain ⟨x,j,nq3,rfl,rfl,hj,hxb,hxv,hw⟩:=hrel;obtain rfl:=hw.out;clear hw;have hxb2:x<4294967296:=Nat.lt_of_lt_of_le hxb.out (Nat.le_trans (Nat.pow_le_pow_right (by omega) (show j<=8 by omega)) (by decide));by_cases hjn:j<4
      ·have hdv:=dval_lt (by omega) (hget.out j (by omega) (by omega));have hxs:Hid (escV D (at_+1+j) x (4 - j)=escV D (at_+1+(j+1)) (16 * x+dval (D.c (at_+1+j))) (4 - (j+1))):=by
        show _=_;rw [show 4 - j=(4 - (j+1))+1 by omega,escV]
        rfl
       have hdv2:=hget.out j (by omega) (by omega);obtain ⟨y,hy⟩:∃ y,dval (D.c (at_+1+j))=y:=⟨_,rfl⟩;rw [hy] at hdv hdv2 hxs;clear hy;have hdv:=qqh hdv;go_wp2_with (go_at_call 20;refine (peek_p D bp A C (at_+1) st (at_+1+j) _ _ (by exact HW.out.1.drewN _) (by omega) (by omega) (by omega) (by omega)).mono ?_;rintro e w1 ⟨rfl,nq,rfl⟩)
       all_goals first
        | (exfalso;have:=hdv.out;omega)
        | (
          go_roundw
          case rel =>
           refine ⟨16 * x+y,j+1,_,?_,by go_num,by omega,?_,?_,rfl⟩
           ·have:=hdv.out
            rw [or16 _ _ (by omega) (by omega) (by omega) (by omega)]
            congr 1;omega
           ·show _<_;have:=hxb.out;rw [Nat.pow_succ];omega
           ·show _=_;rw [hxv.out,hxs.out]
          case measure => simp [intOf];omega)
      ·obtain rfl:j=4:=(by omega);have hxe:Hid (x=v):=by
        show _=_;have h1:=hxv.out;rw [HV.out,Nat.sub_self,escV] at h1;exact h1.symm
       obtain rfl:=hxe.out;clear hxe;have ha1:=HW.out.1.c1;have hf1:=HW.out.1.f 1;by_cases hbig:x > 1114111\/55296<=x/\x<57344
       ·have hE:Hid (esc D at_=.bad):=(by show _=_;rw [hE1.out,if_pos hbig]);go_wp2_with fail
        all_goals first
         | (exfalso;omega)
         | (
           refine (fail_c D bp A C (at_+1+4) st _ (PS.setAt (HW.out.1.drewN _) _ (at_+1+4) (by omega))).mono ?_
           rintro e w2 ⟨rfl,hp2,hk2⟩
           have hp2:=qqh hp2
           have hk2:=qqh hk2
           go_wp2
           go_ret
           rw [hE.out]
           exact ⟨rfl,hp2.out,(Kp.putOnly (HW.out.2.drewN _) _).trans hk2.out⟩)
       ·have hval:validN x:=(by unfold validN;omega);have hE:Hid (esc D at_=.good (encU x) (at_+1+4)):=(by show _=_;rw [hE1.out,if_neg hbig]);have hEr:∀ (w:World),(convert 21 9 (.int .i32 (x:Int))).run Tryz.prog w=.ok (.string ⟨(encU x).toArray⟩) w:=fun w => by
         rw [run_convert_int_string w 21 9 .i32 x (by rw [Tryz.underlying21];rfl) Tryz.underlying9,encode_eq x hval];rfl
        go_wp2_with fail
        all_goals first
         | (exfalso;omega)
         | (
           go_ret
           rw [hE.out]
           exact ⟨rfl,PS.setAt (HW.out.1.drewN _) _ (at_+1+4) (by omega),Kp.putOnly (HW.out.2.drewN _) _⟩)
    ·have h4:n=escM (D.c at_):=hn.symm;rw [hM] at h4;simp [escM] at h4;subst h4;clear hn hn0;go_enter Tryz.func68,Tryz.ntmps68;go_wp2_with fail
     refine (peek_c D bp A C at_ st 0 _ HP.out (by omega) (by omega) (by omega)).mono ?_;rintro e w1 ⟨rfl,nq,rfl⟩;simp only [Int.toNat_zero,Nat.add_zero];go_wp2_with fail
     refine wp_at (fun W => (W.cell? ⟨w.heap.size,0,none⟩=some (.int .u8 98)/\W.cell? ⟨w.heap.size,1,none⟩=some (.int .u8 116)/\W.cell? ⟨w.heap.size,2,none⟩=some (.int .u8 110)/\W.cell? ⟨w.heap.size,3,none⟩=some (.int .u8 102)
      /\ W.cell? ⟨w.heap.size,4,none⟩=some (.int .u8 114)/\W.cell? ⟨w.heap.size,5,none⟩=some (.int .u8 34)/\W.cell? ⟨w.heap.size,6,none⟩=some (.int .u8 92))/\Hid (PS D bp A C W (at_+1) st/\Kp (Only bp) w W)) ⟨?_,PS.alloc (PS.setAt (HP.out.drewN _) _ (at_+1) (by omega)) _,Kp.alloc (Kp.putOnly ((Kp.refl _ _).drewN _) _) _⟩ ?_
     ·refine ⟨?_,?_,?_,?_,?_,?_,?_⟩ <;> (rw [cell_new (by simp)];rfl)
     rintro W ⟨⟨z0,z1,z2,z3,z4,z5,z6⟩,HW⟩;refine wp_loop_rounds 8 ?_
     iterate 8 (first | (rw [rounds_succ];go_wp2_with fail) | skip)
     refine (digits_p D bp A C (at_+1) st (at_+1) 16 _ _ _ (by exact HW.out.1) (by omega) (by omega) (by omega) rfl (by omega) (by omega)).mono ?_;rintro e w2 ⟨rfl,nq2,rfl⟩;rw [HG.out];go_wp2_with fail
     go_loopw [7,59] (fun t i wr => ∃ x j nq:Nat,t=.int .i64 x/\i=.int .i64 j/\j<=8/\Hid (x<16 ^ j)/\Hid (escV D (at_+1) 0 8=escV D (at_+1+j) x (8 - j))/\Hid (wr=W.drewN nq)) (fun _ i _ => 8 - (intOf i).toNat)
     case atStart => exact ⟨0,0,nq2,rfl,rfl,by omega,by show _<_;simp,rfl,by show _=_;rfl⟩
     case round =>
      obtain ⟨x,j,nq3,rfl,rfl,hj,hxb,hxv,hw⟩:=hrel;obtain rfl:=hw.out;clear hw;have hxb2:x<4294967296:=Nat.lt_of_lt_of_le hxb.out (Nat.le_trans (Nat.pow_le_pow_right (by omega) (show j<=8 by omega)) (by decide));by_cases hjn:j<8
      ·have hdv:=dval_lt (by omega) (hget.out j (by omega) (by omega));have hxs:Hid (escV D (at_+1+j) x (8 - j)=escV D (at_+1+(j+1)) (16 * x+dval (D.c (at_+1+j))) (8 - (j+1))):=by
        show _=_;rw [show 8 - j=(8 - (j+1))+1 by omega,escV]
        rfl
       have hdv2:=hget.out j (by omega) (by omega);obtain ⟨y,hy⟩:∃ y,dval (D.c (at_+1+j))=y:=⟨_,rfl⟩;rw [hy] at hdv hdv2 hxs;clear hy;have hdv:=qqh hdv;go_wp2_with (go_at_call 20;refine (peek_p D bp A C (at_+1) st (at_+1+j) _ _ (by exact HW.out.1.drewN _) (by omega) (by omega) (by omega) (by omega)).mono ?_;rintro e w1 ⟨rfl,nq,rfl⟩)
       all_goals first
        | (exfalso;have:=hdv.out;omega)
        | (
          go_roundw
          case rel =>
           refine ⟨16 * x+y,j+1,_,?_,by go_num,by omega,?_,?_,rfl⟩
           ·have:=hdv.out
            rw [or16 _ _ (by omega) (by omega) (by omega) (by omega)]
            congr 1;omega
           ·show _<_;have:=hxb.out;rw [Nat.pow_succ];omega
           ·show _=_;rw [hxv.out,hxs.out]
          case measure => simp [intOf];omega)
      ·obtain rfl:j=8:=(by omega);have hxe:Hid (x=v):=by
        show _=_;have h1:=hxv.out;rw [HV.out,Nat.sub_self,escV] at h1;exact h1.symm
       obtain rfl:=hxe.out;clear hxe;have ha1:=HW.out.1.c1;have hf1:=HW.out.1.f 1;by_cases hbig:x > 1114111\/55296<=x/\x<57344
       ·have hE:Hid (esc D at_=.bad):=(by show _=_;rw [hE1.out,if_pos hbig]);go_wp2_with fail
        all_goals first
         | (exfalso;omega)
         | (
           refine (fail_c D bp A C (at_+1+8) st _ (PS.setAt (HW.out.1.drewN _) _ (at_+1+8) (by omega))).mono ?_
           rintro e w2 ⟨rfl,hp2,hk2⟩
           have hp2:=qqh hp2
           have hk2:=qqh hk2
           go_wp2
           go_ret
           rw [hE.out]
           exact ⟨rfl,hp2.out,(Kp.putOnly (HW.out.2.drewN _) _).trans hk2.out⟩)
       ·have hval:validN x:=(by unfold validN;omega);have hE:Hid (esc D at_=.good (encU x) (at_+1+8)):=(by show _=_;rw [hE1.out,if_neg hbig]);have hEr:∀ (w:World),(convert 21 9 (.int .i32 (x:Int))).run Tryz.prog w=.ok (.string ⟨(encU x).toArray⟩) w:=fun w => by
         rw [run_convert_int_string w 21 9 .i32 x (by rw [Tryz.underlying21];rfl) Tryz.underlying9,encode_eq x hval];rfl
        go_wp2_with fail
        all_goals first
         | (exfalso;omega)
         | (
           go_ret
           rw [hE.out]
           exact ⟨rfl,PS.setAt (HW.out.1.drewN _) _ (at_+1+8) (by omega),Kp.putOnly (HW.out.2.drewN _) _⟩)
  ·have x3:((D.c at_:Int) == 117)=false:=qqn (by omega);have x4:((D.c at_:Int) == 85)=false:=qqn (by omega);have hE:Hid (esc D at_=.bad):=(by show _=_;rw [hE0.out,if_neg hx,if_pos (by unfold escM;rw [if_neg (by omega),if_neg (by omega)])]);rw [hE.out];clear hx hM hE hE0;go_enter Tryz.func68,Tryz.ntmps68;go_wp2_with fail
   refine (peek_c D bp A C at_ st 0 _ HP.out (by omega) (by omega) (by omega)).mono ?_;rintro e w1 ⟨rfl,nq,rfl⟩;simp only [Int.toNat_zero,Nat.add_zero];go_wp2_with fail
   refine wp_at (fun W => (W.cell? ⟨w.heap.size,0,none⟩=some (.int .u8 98)/\W.cell? ⟨w.heap.size,1,none⟩=some (.int .u8 116)/\W.cell? ⟨w.heap.size,2,none⟩=some (.int .u8 110)/\W.cell? ⟨w.heap.size,3,none⟩=some (.int .u8 102)
    /\ W.cell? ⟨w.heap.size,4,none⟩=some (.int .u8 114)/\W.cell? ⟨w.heap.size,5,none⟩=some (.int .u8 34)/\W.cell? ⟨w.heap.size,6,none⟩=some (.int .u8 92))/\Hid (PS D bp A C W (at_+1) st/\Kp (Only bp) w W)) ⟨?_,PS.alloc (PS.setAt (HP.out.drewN _) _ (at_+1) (by omega)) _,Kp.alloc (Kp.putOnly ((Kp.refl _ _).drewN _) _) _⟩ ?_
   ·refine ⟨?_,?_,?_,?_,?_,?_,?_⟩ <;> (rw [cell_new (by simp)];rfl)
   rintro W ⟨⟨z0,z1,z2,z3,z4,z5,z6⟩,HW⟩;refine wp_loop_rounds 8 ?_
   iterate 8 (first | (rw [rounds_succ];go_wp2_with fail) | skip)
   refine (fail_c D bp A C (at_+1) st _ HW.out.1).mono ?_;rintro e w2 ⟨rfl,hp2,hk2⟩;have hp2:=qqh hp2;have hk2:=qqh hk2
   go_wp2
   go_ret;exact ⟨rfl,hp2.out,HW.out.2.trans hk2.out⟩
end Go.Proofs.YtpgmddjgcgpoeaaGreat
