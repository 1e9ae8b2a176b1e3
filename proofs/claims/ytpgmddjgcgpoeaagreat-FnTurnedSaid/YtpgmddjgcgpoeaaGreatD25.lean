/-
  A part of the proof.
-/
import Derived.Test.YtpgmddjgcgpoeaaGreatD20
import Derived.Test.YtpgmddjgcgpoeaaGreatD23
import Derived.Deep.RegionHeld3
set_option linter.unusedVariables false
set_option linter.unusedSimpArgs false
set_option maxRecDepth 100000
set_option maxHeartbeats 8000000
namespace Go.Proofs.YtpgmddjgcgpoeaaGreat
open Go.RowKit
theorem wval_gen (D:Doc) (A:Option Addr) (C bp e Le Ke:Nat) (S:Nat->Prop) (w:World) (at_:Nat) (hp:ST D A C bp w at_) (hat:at_<=1000000) (hLe:Le<=100000) (hKe:Ke<=5000) (hS:∀ b,S b->b ≠ bp)
  (k:Int) (s:ByteArray) (ra:Option Addr) (n c:Nat) (ky:Value) (hs:s.size<=32) (hky:KeysAt w S ky) (hn:n<=3)
  (hit:∀ i,i<n->∃ (b:Nat) (c0 c1 c2 c3:Value),ra=some ⟨b,0,none⟩/\S b/\w.cell? ⟨b,i * 4,none⟩=some c0/\w.cell? ⟨b,i * 4+1,none⟩=some c1/\w.cell? ⟨b,i * 4+2,none⟩=some c2/\w.cell? ⟨b,i * 4+3,none⟩=some c3/\ValAt w S e (.agg #[c0,c1,c2,c3]))
  (IH:0<n->∀ (w':World) (a:Nat) (v:Value),ST D A C bp w' a->a<=at_+20000->ValAt w' S e v->Calls Tryz.prog 16 #[.pointer (some ⟨bp,0,none⟩),v] w' (WR D A C bp w' (fun l a' => l<=Le/\a<=a'/\a'<=a+Ke))) :
  Calls Tryz.prog 16 #[.pointer (some ⟨bp,0,none⟩),.agg #[.int .i64 k,.string s,.slice ra n c,ky]] w (WR D A C bp w (fun l a => l<=600+n * (Le+800)/\at_<=a/\a<=at_+(n * (Ke+210)+170))):=by
 have HP:=qqh hp;have hlt:=hp.blk.lt;obtain ⟨ka,kn,kc,rfl,hkk⟩:=id hky;have HKY:=qqh hky;have HIT:=qqh hit;have IHH:=qqh IH;have hp1:Hid (ST D A C bp (w.alloc (.cells #[.int .i64 k,.string s,.slice ra n c,.slice ka kn kc] 43)) at_):=hp.nil ((Kp.refl _ _).alloc _);have HB1:=qqh (Blk.new w [.int .i64 k,.string s,.slice ra n c,.slice ka kn kc] 43);have hat1:at_<=5000000:=by omega
 have hs1:s.size<=1000:=by omega
 clear hp hky hit IH hkk;rcases (show k=0\/k=8\/k=9\/(k ≠ 0/\k ≠ 8/\k ≠ 9) by omega) with rfl | rfl | rfl | hk
 ·go_enter Tryz.func16,Tryz.ntmps16;go_wp2_with (go_at_call 40;(with_reducible refine (wtext_c D A C bp _ at_ s hp1.out hat1 hs1).mono ?_);rintro e2 w2 ⟨t,a2,rfl,⟨ht,ha2,ha3⟩,hp2,hk2⟩;have ht:t.size<=17 * s.size+7:=ht;have HP2:=qqh hp2;have HK2:=qqh hk2;clear hp2 hk2)
  go_ret;exact ⟨_,_,rfl,⟨by omega,by omega,by omega⟩,HP2.out,Kp.trans ((Kp.refl _ _).alloc _) HK2.out⟩
 ·go_enter Tryz.func16,Tryz.ntmps16;go_wp2_with fail
  go_loopw [5,24] (fun x y wr => ∃ (o:ByteArray) (i a:Nat),x=.string o/\y=.int .i64 i/\i<=n/\o.size<=1+i * (Le+40)/\at_<=a/\a<=at_+i * (Ke+10)/\Hid (ST D A C bp wr a)/\Hid (Kp (Only bp) (w.alloc (.cells #[.int .i64 8,.string s,.slice ra n c,.slice ka kn kc] 43)) wr)) (fun _ y _ => n - (intOf y).toNat)
  case atStart => exact ⟨_,0,_,rfl,rfl,by omega,by show 1<=_;omega,by omega,by omega,hp1,Kp.refl _ _⟩
  case round =>
   obtain ⟨o,i,a,rfl,rfl,hi,ho,ha1,ha2,hp2,hk2⟩:=hrel;have K2:Hid (Kp (Only bp) w wr):=Kp.trans ((Kp.refl _ _).alloc _) hk2.out;have u1:i * (Le+40)<=3 * (Le+40):=Nat.mul_le_mul_right _ (by omega);have u2:i * (Ke+10)<=3 * (Ke+10):=Nat.mul_le_mul_right _ (by omega);by_cases hin:i<n
   ·have hii:(i:Int)<n:=(by omega);have hn0:0<n:=(by omega);have u3:(i+1) * (Le+40)=i * (Le+40)+(Le+40):=Nat.succ_mul _ _;have u4:(i+1) * (Ke+10)=i * (Ke+10)+(Ke+10):=Nat.succ_mul _ _;obtain ⟨b,c0,c1,c2,c3,rfl,hb,h0,h1,h2,h3,hv⟩:=HIT.out i hin;obtain ⟨k0,s0,ia,il,ic,ja,jl,jc,e0⟩:=hv.form;simp only [Value.agg.injEq,Array.mk.injEq,List.cons.injEq,and_true] at e0;obtain ⟨rfl,rfl,rfl,rfl⟩:=e0;have d0:=cell_kp h0 K2.out (hS b hb);have d1:=cell_kp h1 K2.out (hS b hb);have d2:=cell_kp h2 K2.out (hS b hb);have d3:=cell_kp h3 K2.out (hS b hb);have HV:=qqh (ValAt.kp K2.out (fun b hb => hS b hb) hv);clear h0 h1 h2 h3 hv;have nc:¬ (9223372036854775807<o.size+1):=(by omega);go_upto_if 30 with fail;go_cut [5] from 31 to 32 (fun x wx => ∃ o2:ByteArray,x=.string o2/\o2.size<=2+i * (Le+40)/\wx=wr.alloc (.cells #[.int .i64 k0,.string s0,.slice ia il ic,.slice ja jl jc] 43))
    case first =>
     go_wp2_with fail
     all_goals
      go_meet
      first
       | exact ⟨_,rfl,by rw [ByteArray.size_append];show o.size+1<=_;omega,rfl⟩
       | exact ⟨_,rfl,by omega,rfl⟩
    case rest =>
     obtain ⟨o2,rfl,ho2,rfl⟩:=hcut;have HPa:Hid (ST D A C bp (wr.alloc (.cells #[.int .i64 k0,.string s0,.slice ia il ic,.slice ja jl jc] 43)) a):=hp2.out.nil ((Kp.refl _ _).alloc _);have HBa:=qqh (Blk.new wr [.int .i64 k0,.string s0,.slice ia il ic,.slice ja jl jc] 43);have HKa:Hid (Kp (Only bp) wr (wr.alloc (.cells #[.int .i64 k0,.string s0,.slice ia il ic,.slice ja jl jc] 43))):=(Kp.refl _ _).alloc _;have hwlt:=hp2.out.blk.lt;obtain ⟨W,hW⟩:∃ W,wr.alloc (.cells #[.int .i64 k0,.string s0,.slice ia il ic,.slice ja jl jc] 43)=W:=⟨_,rfl⟩;rw [hW] at HPa HBa HKa ⊢;clear hW;have q0:=HBa.out.cell 0 rfl;have q1:=HBa.out.cell 1 rfl;have q2:=HBa.out.cell 2 rfl;have q3:=HBa.out.cell 3 rfl;have hat2:a<=5000000:=(by omega);go_upto_region 11 with fail
     go_region_held3 (fun w' => w'.cell? ⟨wr.heap.size,0,none⟩=some (.int .i64 k0)/\w'.cell? ⟨wr.heap.size,1,none⟩=some (.string s0)/\w'.cell? ⟨wr.heap.size,2,none⟩=some (.slice ia il ic)/\w'.cell? ⟨wr.heap.size,3,none⟩=some (.slice ja jl jc)) (go_keep) (first
      | ((go_at_call 41;(with_reducible refine (wgap_c D A C bp _ a ?hst hat2).mono ?_);(case hst => exact HPa.out.nil (Kp.refl _ _).drew);rintro e4 w4 ⟨t4,a4,rfl,⟨ht4,ha4,ha5⟩,hp4,hk4⟩;have ht4:t4.size<=16:=ht4;have HB4:=qqh ((HBa.out.drew).kpOnly hk4 (by omega));have q40:=HB4.out.cell 0 rfl;have q41:=HB4.out.cell 1 rfl;have q42:=HB4.out.cell 2 rfl;have q43:=HB4.out.cell 3 rfl;have HP4:=qqh hp4;have HK4:=qqh (Kp.trans HKa.out.drew hk4);have hat4:a4<=at_+20000:=(by omega);clear hp4 hk4))
      | ((go_at_call 16;(with_reducible refine (IHH.out hn0 _ a4 _ HP4.out hat4 ?hv).mono ?_);(case hv => exact ValAt.kp HK4.out (fun b hb => hS b hb) HV.out);rintro e5 w5 ⟨t5,a5,rfl,⟨ht5,ha6,ha7⟩,hp5,hk5⟩;have ht5:t5.size<=Le:=ht5;have n1:¬ (9223372036854775807<t4.size+t5.size):=(by omega);have HB5:=qqh (HB4.out.kpOnly hk5 (by omega));have q50:=HB5.out.cell 0 rfl;have q51:=HB5.out.cell 1 rfl;have q52:=HB5.out.cell 2 rfl;have q53:=HB5.out.cell 3 rfl;have HP5:=qqh hp5;have HK5:=qqh (Kp.trans HK4.out hk5);have hat5:a5<=5000000:=(by omega);clear hp5 hk5))
      | ((go_at_call 41;(with_reducible refine (wgap_c D A C bp _ a5 HP5.out hat5).mono ?_);rintro e6 w6 ⟨t6,a6,rfl,⟨ht6,ha8,ha9⟩,hp6,hk6⟩;have ht6:t6.size<=16:=ht6;have n2:¬ (9223372036854775807<t4.size+t5.size+t6.size):=(by omega);have n3:¬ (9223372036854775807<o2.size+(t4.size+t5.size+t6.size)):=(by omega);have HB6:=qqh (HB5.out.kpOnly hk6 (by omega));have q60:=HB6.out.cell 0 rfl;have q61:=HB6.out.cell 1 rfl;have q62:=HB6.out.cell 2 rfl;have q63:=HB6.out.cell 3 rfl;have HP6:=qqh hp6;have HK6:=qqh (Kp.trans HK5.out hk6);clear hp6 hk6)))
     go_wp2_with fail
     go_roundw
     case rel => exact ⟨_,i+1,a6,rfl,by go_num,by omega,by simp only [ByteArray.size_append];show o2.size+(t4.size+t5.size+t6.size)<=_;omega,by omega,by omega,HP6,Kp.trans hk2.out HK6.out⟩
     case measure => simp [intOf];omega
   ·have hii:¬ ((i:Int)<n):=(by omega);obtain rfl:i=n:=(by omega);have r2:=(HB1.out.kpOnly hk2.out (by omega)).cell 2 rfl;have u5:i * (Le+40)<=i * (Le+800):=Nat.mul_le_mul_left _ (by omega);have u6:i * (Ke+10)<=i * (Ke+210):=Nat.mul_le_mul_left _ (by omega);have hat2:a<=100000000:=(by omega);have hat3:a<=5000000:=(by omega);have hat4:a+1<=5000000:=(by omega);have nc:¬ (9223372036854775807<o.size+1):=(by omega);obtain ⟨z,hz⟩:∃ z,decide ((0:Int)<i)=z:=⟨_,rfl⟩;go_wp2_with (first
     | (go_at_call 12;(with_reducible refine (wpick4_c D A C bp _ a hp2.out hat2).mono ?_);rintro e3 w3 ⟨rfl,hp3,hk3⟩;have HP3:=qqh hp3;have HK3:=qqh (Kp.trans K2.out hk3);clear hp3 hk3;obtain ⟨y,hy⟩:∃ y,(((pickV D a % 4:Nat):Int) == 0)=y:=⟨_,rfl⟩)
     | (go_at_call 41;(with_reducible refine (wgap_c D A C bp _ a hp2.out hat3).mono ?_);rintro e4 w4 ⟨t,a4,rfl,⟨ht,ha4,ha5⟩,hp4,hk4⟩;have ht:t.size<=16:=ht;have n1:¬ (9223372036854775807<o.size+t.size):=(by omega);have n2:¬ (9223372036854775807<o.size+t.size+1):=(by omega);have HP4:=qqh hp4;have HK4:=qqh (Kp.trans K2.out hk4);clear hp4 hk4)
     | (go_at_call 41;(with_reducible refine (wgap_c D A C bp _ (a+1) HP3.out hat4).mono ?_);rintro e4 w4 ⟨t,a4,rfl,⟨ht,ha4,ha5⟩,hp4,hk4⟩;have ht:t.size<=16:=ht;have n1:¬ (9223372036854775807<o.size+t.size):=(by omega);have n2:¬ (9223372036854775807<o.size+t.size+1):=(by omega);have n3:¬ (9223372036854775807<o.size+1+t.size):=(by omega);have n4:¬ (9223372036854775807<o.size+1+t.size+1):=(by omega);have HP4:=qqh hp4;have HK4:=qqh (Kp.trans HK3.out hk4);clear hp4 hk4))
    all_goals
     go_ret
     first
      | exact ⟨_,_,rfl,⟨by simp only [ByteArray.size_append];show o.size+t.size+1<=_;omega,by omega,by omega⟩,HP4.out,HK4.out⟩
      | exact ⟨_,_,rfl,⟨by simp only [ByteArray.size_append];show o.size+1+t.size+1<=_;omega,by omega,by omega⟩,HP4.out,HK4.out⟩
 ·go_enter Tryz.func16,Tryz.ntmps16;have hat0:at_<=100000000:=by omega
  go_wp2_with (go_at_call 14;(with_reducible refine (wblanks_c D A C bp _ at_ hp1.out hat0).mono ?_);rintro e2 w2 ⟨t,a2,rfl,⟨ht,rfl⟩,hp2,hk2⟩;have ht:t.size<=2:=ht;have n0:¬ (9223372036854775807<1+t.size):=(by omega);have HP2:=qqh hp2;have HK2:=qqh hk2;have r2:=(HB1.out.kpOnly hk2 (by omega)).cell 2 rfl;clear hp2 hk2)
  go_loopw [8,69] (fun x y wr => ∃ (o:ByteArray) (i a:Nat),x=.string o/\y=.int .i64 i/\i<=n/\o.size<=3+i * (Le+775)/\at_<=a/\a<=at_+1+i * (Ke+206)/\Hid (ST D A C bp wr a)/\Hid (Kp (Only bp) w wr)) (fun _ y _ => n - (intOf y).toNat)
  case atStart => exact ⟨_,0,_,rfl,rfl,by omega,by rw [ByteArray.size_append];show 1+t.size<=_;omega,by omega,by omega,HP2,Kp.trans ((Kp.refl _ _).alloc _) HK2.out⟩
  case round =>
   obtain ⟨o,i,a,rfl,rfl,hi,ho,ha1,ha2,hp2,K2⟩:=hrel;have u1:i * (Le+775)<=3 * (Le+775):=Nat.mul_le_mul_right _ (by omega);have u2:i * (Ke+206)<=3 * (Ke+206):=Nat.mul_le_mul_right _ (by omega);by_cases hin:i<n
   ·have hii:(i:Int)<n:=(by omega);have hn0:0<n:=(by omega);have u3:(i+1) * (Le+775)=i * (Le+775)+(Le+775):=Nat.succ_mul _ _;have u4:(i+1) * (Ke+206)=i * (Ke+206)+(Ke+206):=Nat.succ_mul _ _;obtain ⟨b,c0,c1,c2,c3,rfl,hb,h0,h1,h2,h3,hv⟩:=HIT.out i hin;obtain ⟨k0,s0,ia,il,ic,ja,jl,jc,e0⟩:=hv.form;simp only [Value.agg.injEq,Array.mk.injEq,List.cons.injEq,and_true] at e0;obtain ⟨rfl,rfl,rfl,rfl⟩:=e0;have d0:=cell_kp h0 K2.out (hS b hb);have d1:=cell_kp h1 K2.out (hS b hb);have d2:=cell_kp h2 K2.out (hS b hb);have d3:=cell_kp h3 K2.out (hS b hb);have HV:=qqh (ValAt.kp K2.out (fun b hb => hS b hb) hv);clear h0 h1 h2 h3 hv r2;go_upto_if 75 with fail;have HPa:Hid (ST D A C bp (wr.alloc (.cells #[.int .i64 k0,.string s0,.slice ia il ic,.slice ja jl jc] 43)) a):=hp2.out.nil ((Kp.refl _ _).alloc _);have HBa:=qqh (Blk.new wr [.int .i64 k0,.string s0,.slice ia il ic,.slice ja jl jc] 43);have HKa:Hid (Kp (Only bp) wr (wr.alloc (.cells #[.int .i64 k0,.string s0,.slice ia il ic,.slice ja jl jc] 43))):=(Kp.refl _ _).alloc _;have hwlt:=hp2.out.blk.lt;obtain ⟨W,hW⟩:∃ W,wr.alloc (.cells #[.int .i64 k0,.string s0,.slice ia il ic,.slice ja jl jc] 43)=W:=⟨_,rfl⟩;rw [hW] at HPa HBa HKa ⊢;clear hW;have hat1':a<=100000000:=(by omega);go_cut [8,75] from 76 to 80 (fun x _ wx => ∃ (o2:ByteArray) (a2:Nat),x=.string o2/\o2.size<=6+i * (Le+775)/\a<=a2/\a2<=a+1/\Hid (ST D A C bp wx a2)/\Hid (Kp (Only bp) W wx))
    case first =>
     go_wp2_with (go_at_call 14;(with_reducible refine (wblanks_c D A C bp _ a HPa.out hat1').mono ?_);rintro e3 w3 ⟨t3,a3,rfl,⟨ht3,rfl⟩,hp3,hk3⟩;have ht3:t3.size<=2:=ht3;have n1:¬ (9223372036854775807<1+t3.size):=(by omega);have n2:¬ (9223372036854775807<o.size+(1+t3.size)):=(by omega);have HP3:=qqh hp3;have HK3:=qqh hk3;clear hp3 hk3)
     all_goals
      go_meet
      first
       | exact ⟨_,_,rfl,by simp only [ByteArray.size_append];show o.size+(1+t3.size)<=_;omega,by omega,by omega,HP3,HK3⟩
       | exact ⟨_,_,rfl,by omega,by omega,by omega,HPa,Kp.refl _ _⟩
    case rest =>
     obtain ⟨o2,a2,rfl,ho2,hb1,hb2,hpc,hkc⟩:=hcut;have HB0:=qqh (HBa.out.kpOnly hkc.out (by omega));have HKc:=qqh (Kp.trans HKa.out hkc.out);have q0:=HB0.out.cell 0 rfl;have q1:=HB0.out.cell 1 rfl;have q2:=HB0.out.cell 2 rfl;have q3:=HB0.out.cell 3 rfl;have hat2:a2<=4000000:=(by omega);go_upto_region 23 with fail
     go_region_held3 (fun w' => w'.cell? ⟨wr.heap.size,0,none⟩=some (.int .i64 k0)/\w'.cell? ⟨wr.heap.size,1,none⟩=some (.string s0)/\w'.cell? ⟨wr.heap.size,2,none⟩=some (.slice ia il ic)/\w'.cell? ⟨wr.heap.size,3,none⟩=some (.slice ja jl jc)) (go_keep) (first
      | ((go_at_call 15;(with_reducible refine (wkey_c D A C bp S _ a2 _ ?hst hat2 ?hky hS).mono ?_);(case hst => exact hpc.out.nil (Kp.refl _ _).drew);(case hky => exact KeysAt.kp HV.out.ky HKc.out.drew (fun b hb => hS b hb));rintro e4 w4 ⟨t4,a4,rfl,⟨ht4,ha4,ha5⟩,hp4,hk4⟩;have ht4:t4.size<=760:=ht4;have HB4:=qqh ((HB0.out.drew).kpOnly hk4 (by omega));have q40:=HB4.out.cell 0 rfl;have q41:=HB4.out.cell 1 rfl;have q42:=HB4.out.cell 2 rfl;have q43:=HB4.out.cell 3 rfl;have HP4:=qqh hp4;have HK4:=qqh (Kp.trans HKc.out.drew hk4);have hat4:a4<=100000000:=(by omega);clear hp4 hk4))
      | ((go_at_call 14;(with_reducible refine (wblanks_c D A C bp _ a4 HP4.out hat4).mono ?_);rintro e5 w5 ⟨t5,a5,rfl,⟨ht5,rfl⟩,hp5,hk5⟩;have ht5:t5.size<=2:=ht5;have n1:¬ (9223372036854775807<t4.size+t5.size):=(by omega);have n2:¬ (9223372036854775807<t4.size+t5.size+1):=(by omega);have HB5:=qqh (HB4.out.kpOnly hk5 (by omega));have q50:=HB5.out.cell 0 rfl;have q51:=HB5.out.cell 1 rfl;have q52:=HB5.out.cell 2 rfl;have q53:=HB5.out.cell 3 rfl;have HP5:=qqh hp5;have HK5:=qqh (Kp.trans HK4.out hk5);have hat5:a4+1<=100000000:=(by omega);clear hp5 hk5))
      | ((go_at_call 14;(with_reducible refine (wblanks_c D A C bp _ (a4+1) HP5.out hat5).mono ?_);rintro e6 w6 ⟨t6,a6,rfl,⟨ht6,rfl⟩,hp6,hk6⟩;have ht6:t6.size<=2:=ht6;have n3:¬ (9223372036854775807<t4.size+t5.size+1+t6.size):=(by omega);have HB6:=qqh (HB5.out.kpOnly hk6 (by omega));have q60:=HB6.out.cell 0 rfl;have q61:=HB6.out.cell 1 rfl;have q62:=HB6.out.cell 2 rfl;have q63:=HB6.out.cell 3 rfl;have HP6:=qqh hp6;have HK6:=qqh (Kp.trans HK5.out hk6);have hat6:a4+1+1<=at_+20000:=(by omega);clear hp6 hk6))
      | ((go_at_call 16;(with_reducible refine (IHH.out hn0 _ (a4+1+1) _ HP6.out hat6 ?hv).mono ?_);(case hv => exact ValAt.kp HK6.out (fun b hb => hS b hb) HV.out);rintro e7 w7 ⟨t7,a7,rfl,⟨ht7,ha6,ha7⟩,hp7,hk7⟩;have ht7:t7.size<=Le:=ht7;have n4:¬ (9223372036854775807<t4.size+t5.size+1+t6.size+t7.size):=(by omega);have HB7:=qqh (HB6.out.kpOnly hk7 (by omega));have q70:=HB7.out.cell 0 rfl;have q71:=HB7.out.cell 1 rfl;have q72:=HB7.out.cell 2 rfl;have q73:=HB7.out.cell 3 rfl;have HP7:=qqh hp7;have HK7:=qqh (Kp.trans HK6.out hk7);have hat7:a7<=100000000:=(by omega);clear hp7 hk7))
      | ((go_at_call 14;(with_reducible refine (wblanks_c D A C bp _ a7 HP7.out hat7).mono ?_);rintro e8 w8 ⟨t8,a8,rfl,⟨ht8,rfl⟩,hp8,hk8⟩;have ht8:t8.size<=2:=ht8;have n5:¬ (9223372036854775807<t4.size+t5.size+1+t6.size+t7.size+t8.size):=(by omega);have n6:¬ (9223372036854775807<o2.size+(t4.size+t5.size+1+t6.size+t7.size+t8.size)):=(by omega);have HB8:=qqh (HB7.out.kpOnly hk8 (by omega));have q80:=HB8.out.cell 0 rfl;have q81:=HB8.out.cell 1 rfl;have q82:=HB8.out.cell 2 rfl;have q83:=HB8.out.cell 3 rfl;have HP8:=qqh hp8;have HK8:=qqh (Kp.trans HK7.out hk8);clear hp8 hk8)))
     go_wp2_with fail
     go_roundw
     case rel => exact ⟨_,i+1,a7+1,rfl,by go_num,by omega,by simp only [ByteArray.size_append];show o2.size+(t4.size+t5.size+1+t6.size+t7.size+t8.size)<=_;omega,by omega,by omega,HP8,Kp.trans K2.out HK8.out⟩
     case measure => simp [intOf];omega
   ·have hii:¬ ((i:Int)<n):=(by omega);obtain rfl:i=n:=(by omega);have u5:i * (Le+775)<=i * (Le+800):=Nat.mul_le_mul_left _ (by omega);have u6:i * (Ke+206)<=i * (Ke+210):=Nat.mul_le_mul_left _ (by omega);have nc:¬ (9223372036854775807<o.size+1):=(by omega);go_wp2_with fail
    go_ret;exact ⟨_,_,rfl,⟨by simp only [ByteArray.size_append];show o.size+1<=_;omega,by omega,by omega⟩,hp2.out,K2.out⟩
 ·obtain ⟨h0,h8,h9⟩:=hk;have g0:(k == 0)=false:=qqn h0;have g8:(k == 8)=false:=qqn h8;have g9:(k == 9)=false:=qqn h9;go_enter Tryz.func16,Tryz.ntmps16;go_wp2_with fail
  go_ret;exact ⟨_,_,rfl,⟨by omega,by omega,by omega⟩,hp1.out,(Kp.refl _ _).alloc _⟩
def wLB:Nat->Nat
 | 0 => 600
 | d+1 => 600+3 * (wLB d+800)
def wKB:Nat->Nat
 | 0 => 170
 | d+1 => 170+3 * (wKB d+210)
theorem wval_c (D:Doc) (A:Option Addr) (C bp:Nat) (S:Nat->Prop) (hS:∀ b,S b->b ≠ bp):∀ (d:Nat),d<=3->∀ (w:World) (at_:Nat) (v:Value),ST D A C bp w at_->at_+20000 * d<=1000000->ValAt w S d v ->
  Calls Tryz.prog 16 #[.pointer (some ⟨bp,0,none⟩),v] w (WR D A C bp w (fun l a => l<=wLB d/\at_<=a/\a<=at_+wKB d))
 | 0,_,w,at_,v,hp,hat,hv => by
  obtain ⟨k,s,a,c,ky,rfl,hs,hk⟩:=hv;refine (wval_gen D A C bp 0 0 0 S w at_ hp (by omega) (by omega) (by omega) hS k s a 0 c ky hs hk (by omega) (fun i hi => by omega) (fun h => by omega)).mono ?_;intro e w' h;exact WR.mono h (fun l a h => ⟨by show l<=600;omega,by omega,by show a<=at_+170;omega⟩)
 | d+1,hd,w,at_,v,hp,hat,hv => by
  obtain ⟨k,s,a,n,c,ky,rfl,hs,hk,hn,hi⟩:=hv;have b1:wLB d<=100000:=by
   rcases (show d=0\/d=1\/d=2 by omega) with rfl | rfl | rfl <;> decide
  have b2:wKB d<=5000:=by
   rcases (show d=0\/d=1\/d=2 by omega) with rfl | rfl | rfl <;> decide
  have m1:n * (wLB d+800)<=3 * (wLB d+800):=Nat.mul_le_mul_right _ hn;have m2:n * (wKB d+210)<=3 * (wKB d+210):=Nat.mul_le_mul_right _ hn;refine (wval_gen D A C bp d (wLB d) (wKB d) S w at_ hp (by omega) b1 b2 hS k s a n c ky hs hk hn hi (fun _ w' a' v' h1 h2 h3 => wval_c D A C bp S hS d (by omega) w' a' v' h1 (by omega) h3)).mono ?_;intro e w' h;exact WR.mono h (fun l a h => ⟨by show l<=600+3 * (wLB d+800);omega,by omega,by show a<=at_+(170+3 * (wKB d+210));omega⟩)
theorem wval3_c (D:Doc) (A:Option Addr) (C bp:Nat) (S:Nat->Prop) (hS:∀ b,S b->b ≠ bp) (w:World) (at_:Nat) (v:Value) (hp:ST D A C bp w at_) (hat:at_<=900000) (hv:ValAt w S 3 v) :
  Calls Tryz.prog 16 #[.pointer (some ⟨bp,0,none⟩),v] w (WR D A C bp w (fun l a => l<=55200/\at_<=a/\a<=at_+14990)) :=
 wval_c D A C bp S hS 3 (by omega) w at_ v hp (by omega) hv
end Go.Proofs.YtpgmddjgcgpoeaaGreat
