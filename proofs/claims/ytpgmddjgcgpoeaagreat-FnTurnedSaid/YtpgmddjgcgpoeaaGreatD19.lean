/-
  A part of the proof.
-/
import Derived.Test.YtpgmddjgcgpoeaaGreatD17
import Derived.Test.YtpgmddjgcgpoeaaGreatD02
import Derived.Test.YtpgmddjgcgpoeaaGreatD10
import Derived.Test.YtpgmddjgcgpoeaaGreatD13
set_option linter.unusedVariables false
set_option linter.unusedSimpArgs false
set_option maxRecDepth 100000
set_option maxHeartbeats 8000000
namespace Go.Proofs.YtpgmddjgcgpoeaaGreat
open Go.RowKit
def KeysOk (r:R (List (List UInt8))) (w:World) (base:Nat) (v:Value):Prop:=match r with | .good ks _ => OwnS w base v ks | _ => IsSl v
theorem keys_c (D:Doc) (bp:Nat) (A:Option Addr) (C:Nat) (at_:Nat) (w:World) (hp:PS D bp A C w at_ 0) (hat:at_<=D.n) (hA:∀ a,A=some a->a.block<w.heap.size) :
  Calls Tryz.prog 21 #[.pointer (some ⟨bp,0,none⟩)] w fun e w' => (∃ v,e=.returned v/\KeysOk (keyP D at_) w' w.heap.size v)/\PS D bp A C w' ((keyP D at_).pos D) ((keyP D at_).st 0)/\Kp (Only bp) w w':=by
 have hs:=D.small;have HP:=qqh hp;have hbl:=hp.blk.lt;clear hp;have hx:Hid (keyP D at_=keyRun D at_ []):=rfl;go_enter Tryz.func21,Tryz.ntmps21;go_wp2_with fail
 go_loopw [3] (fun v wr => ∃ (k:Nat) (acc:List (List UInt8)),k<=D.n/\acc.length<=k/\Hid (keyP D at_=keyRun D k acc) /\
   Hid (PS D bp A C wr k 0)/\Hid (OwnS wr w.heap.size v acc)/\Hid (Kp (Only bp) w wr)) (fun _ wr => left D bp wr)
 case atStart => exact ⟨at_,[],hat,by simp,hx.out,PS.alloc HP.out _,own_made rfl (qqr _),Kp.alloc (Kp.refl _ _) _⟩
 case round =>
  obtain ⟨k,acc,hk,hacc,hd,hp,hown,hkp⟩:=hrel;have hA':∀ a,A=some a->a.block<wr.heap.size:=fun a ha => Nat.lt_of_lt_of_le (hA a ha) hkp.out.size
  have HA':=qqh hA';clear hA';have g2:=hp.out.c2;have hsz:=hkp.out.size;have hwle:=wsEnd_le D k;have hwge:=wsEnd_ge D k;go_wp2_with fail
  refine (blanks_c D bp A C k 0 _ hp.out (by omega)).mono ?_;rintro e w1 ⟨rfl,hp1,hk1⟩;have hown1:=qqh (own_kp hown.out hk1 (fun g hg hS => by have:=hown.out.lt g hg;have hS:g=bp:=hS;omega));have hk1:=qqh (Kp.trans hkp.out hk1);obtain ⟨j,hj⟩:∃ j,wsEnd D k=j:=⟨_,rfl⟩;have HJ:=qqh hj;rw [hj] at hp1 hwle hwge;have hp1:=qqh hp1;clear hj;have g0:=hp1.out.c0;have g1:=hp1.out.c1;have gf:=hp1.out.f 1;have hcl:=D.lt j;have hsz1:=hk1.out.size;by_cases hq:D.c j=34\/D.c j=39
  ·obtain ⟨q,hq0⟩:∃ q,D.c j=q:=⟨_,rfl⟩;have HQ0:=qqh hq0;rw [hq0] at hq;obtain ⟨q8,hq8⟩:∃ q8,UInt8.ofNat q=q8:=⟨_,rfl⟩;have hqn:q8.toNat=q:=(by rw [<- hq8,UInt8.toNat_ofNat'];omega);have HT3:Hid (hasB D j [q8,q8,q8]=decide (three D q j)):=(by show _=_;rw [<- hq8];exact has_three D q j (by omega) (by omega));have hin:=Doc.in_of (D:=D) (k:=j) (by omega);have eq1:((q:Int) == 34)=true\/(((q:Int) == 34)=false/\((q:Int) == 39)=true):=by
    rcases hq with h | h
    ·exact .inl (by rw [beq_iff_eq];omega)
    ·exact .inr ⟨qqn (by omega),by rw [beq_iff_eq];omega⟩
   have hQ:=qqh hq;have hqb:q<256:=(by omega);have hcv:∀ (nq:Nat),(convert 22 9 (.slice (some ⟨w1.heap.size,0,none⟩) 3 3)).run Tryz.prog ((w1.drewN nq).alloc (.cells #[.int .u8 q,.int .u8 q,.int .u8 q] 5))=.ok (.string ⟨[q8,q8,q8].toArray⟩) ((w1.drewN nq).alloc (.cells #[.int .u8 q,.int .u8 q,.int .u8 q] 5)):=fun nq => by
    refine run_convert_bytes_back (P:=Tryz.prog) _ 22 9 5 ⟨w1.heap.size,0,none⟩ 3 [q8,q8,q8] Tryz.underlying22 Tryz.underlying5 Tryz.underlying9 (fun j hj => ?_);rw [show (⟨w1.heap.size,0,none⟩:Addr).add j=⟨w1.heap.size,j,none⟩ by unfold Addr.add;split <;> simp_all,cell_new (by simp)];have hj3:j<3:=hj
    match j,hj3 with
    | 0,_ => simp [hqn]
    | 1,_ => simp [hqn]
    | 2,_ => simp [hqn]
   clear hq0 hq hq8 hqn;rcases eq1 with eq1 | ⟨eq1,eq2⟩
   all_goals
    go_wp2_with fail
    refine (peek_c D bp A C j 0 0 _ hp1.out (by omega) (by omega) (by omega)).mono ?_;rintro e w2 ⟨rfl,nq,rfl⟩;simp only [Int.toNat_zero,Nat.add_zero];rw [HQ0.out];by_cases ht:three D q j
    ·have HT:Hid (hasB D j [q8,q8,q8]=true):=(by show _=_;rw [HT3.out,qqt ht]);have hf:Hid (keyP D at_=.bad):=(by show _=_;rw [hd.out,key_three (by rw [HJ.out,HQ0.out];exact hQ.out) (by rw [HJ.out,HQ0.out];exact ht)]);clear ht;go_wp2_with fail
     refine (has_c D bp A C j 0 [q8,q8,q8] _ (by exact PS.alloc (hp1.out.drewN _) _) (by omega) (by simp) (by simp)).mono ?_;rintro e w2 ⟨rfl,nq2,rfl⟩;rw [HT.out];go_wp2_with fail
     refine (fail_c D bp A C j 0 _ (by exact PS.drewN (PS.alloc (hp1.out.drewN _) _) _)).mono ?_;rintro e w3 ⟨rfl,hp3,hk3⟩;have hk3:=qqh (Kp.trans (Kp.drewN (Kp.alloc (hk1.out.drewN _) _) _) hk3);have hp3:=qqh hp3;go_wp2_with fail
     go_ret;rw [hf.out];exact ⟨⟨_,rfl,⟨_,_,_,rfl⟩⟩,hp3.out,hk3.out⟩
    ·have HT:Hid (hasB D j [q8,q8,q8]=false):=(by show _=_;rw [HT3.out,qqf ht]);have hf0:Hid (keyP D at_=keyAfter D acc (txt D q j)):=by
      show _=_;rw [hd.out,key_quote (by rw [HJ.out,HQ0.out];exact hQ.out) (by rw [HJ.out,HQ0.out];exact ht),HJ.out,HQ0.out]
     clear ht;go_wp2_with fail
     refine (has_c D bp A C j 0 [q8,q8,q8] _ (by exact PS.alloc (hp1.out.drewN _) _) (by omega) (by simp) (by simp)).mono ?_;rintro e w2 ⟨rfl,nq2,rfl⟩;rw [HT.out];go_wp2_with fail
     refine (text_c D bp A C j q _ (by exact PS.drewN (PS.alloc (hp1.out.drewN _) _) _) (by omega) (fun a ha => by have:=HA'.out a ha;have:=hk1.out.size;have:=hA a ha;simp;omega) hQ.out).mono ?_;rintro e w4 ⟨rfl,hp4,hk4⟩;have hown4:=qqh (own_kp (own_drewN (own_alloc (own_drewN hown1.out _) _) _) hk4 (fun g hg hS => by have:=hown1.out.lt g hg;have hS:g=bp:=hS;omega));have hk4:=qqh (Kp.trans (Kp.drewN (Kp.alloc (hk1.out.drewN _) _) _) hk4);obtain ⟨r,hr⟩:∃ r,txt D q j=r:=⟨_,rfl⟩;rw [hr] at hp4 hf0;rw [hr];have HR:=qqh hr;have hp4:=qqh hp4;have hsz4:=hk4.out.size;clear hr;have hll:(acc.length+1) * 16<=140737488355328:=(by omega);go_wp2_with (at_builtin;refine wpList_app rfl T40 _ _ rfl w.heap.size _ acc.length (acc.map sv) rfl (by exact own_alloc hown4.out _) w4.heap.size 1 _ rfl [sv (r.list)] rfl ?_ ?_ hll (by omega) (by simp;omega) ?_)
     ·intro i u hu;cases i with
      | zero => rw [cell_new (by simp)];exact hu
      | succ i => simp at hu
     ·intro u hu;simp at hu;subst hu
      rfl
     intro v' w5 hown5 hg5;have hp5:=qqh (PS.grownL (PS.alloc hp4.out _) (own_alloc hown4.out _) hg5 hbl hA);have hk5:=qqh (Kp.grownL (S:=Only bp) (a:=w) (Kp.alloc hk4.out _) (own_alloc hown4.out _) (qqr _) hg5);clear hg5;cases r with
     | good l k' =>
      have hin2:=txt_in D _ _ _ _ HR.out;have hf:Hid (keyP D at_=keyThen D k' (acc++[l])):=hf0;have hown5:Hid (OwnS w5 w.heap.size v' (acc++[l])):=(by show OwnS _ _ _ _;unfold OwnS;rw [qqa,List.map_append];exact hown5);go_wp2_with fail
      have twle:=wsEnd_le D (k');have twge:=wsEnd_ge D (k');refine (blanks_c D bp A C (k') 0 _ hp5.out (by omega)).mono ?_;rintro e w6 ⟨rfl,hp6,hk6⟩;have hown6:=qqh (own_kp hown5.out hk6 (fun g hg hS => by have:=hown5.out.lt g hg;have hS:g=bp:=hS;omega));have hk6:=qqh (Kp.trans hk5.out hk6);have hp6:=qqh hp6;obtain ⟨t,htt⟩:∃ t,wsEnd D (k')=t:=⟨_,rfl⟩;rw [htt] at hp6 twle twge;have HT:=qqh htt;clear htt;have r1:=hp6.out.c1;have rf:=hp6.out.f 1;have tcl:=D.lt t;by_cases hdot:D.c t=46
      ·have e46:((D.c t:Int) != 46)=false:=(by rw [bne_eq_false_iff_eq];omega);have tin:=Doc.in_of (D:=D) (k:=t) (by omega);have hf2:Hid (keyP D at_=keyRun D (t+1) (acc++[l])):=(by show _=_;rw [hf.out,keyThen,HT.out,if_pos hdot]);clear hdot;go_wp2_with fail
       refine (peek_c D bp A C t 0 0 _ hp6.out (by omega) (by omega) (by omega)).mono ?_;rintro e w7 ⟨rfl,nq7,rfl⟩;simp only [Int.toNat_zero,Nat.add_zero];go_wp2_with fail
       go_roundw
       case rel => exact ⟨t+1,acc++[l],by omega,by rw [qqa,List.length_singleton];omega,hf2.out,PS.setAt (hp6.out.drewN _) _ (t+1) (by omega),own_put (own_drewN hown6.out _) hbl _,Kp.putOnly (hk6.out.drewN _) _⟩
       case measure => rw [hp.out.left,(PS.setAt (hp6.out.drewN _) _ (t+1) (by omega)).left];omega
      ·have e46:((D.c t:Int) != 46)=true:=(by rw [bne_iff_ne];omega);have hf2:Hid (keyP D at_=.good (acc++[l]) t):=(by show _=_;rw [hf.out,keyThen,HT.out,if_neg hdot]);clear hdot;go_wp2_with fail
       refine (peek_c D bp A C t 0 0 _ hp6.out (by omega) (by omega) (by omega)).mono ?_;rintro e w7 ⟨rfl,nq7,rfl⟩;simp only [Int.toNat_zero,Nat.add_zero];go_wp2_with fail
       go_ret;rw [hf2.out];exact ⟨⟨_,rfl,own_drewN hown6.out _⟩,hp6.out.drewN _,hk6.out.drewN _⟩
     | bad =>
      have hf:Hid (keyP D at_=.bad):=hf0;have hz:Hid (wsEnd D D.n=D.n):=wsEnd_stop (by rw [D.out _ (qqr _)];omega);have hz2:=D.out D.n (qqr _);have e46:((D.c D.n:Int) != 46)=true:=(by rw [bne_iff_ne];omega);have hsl:=qqh (IsSl.own hown5);clear hz2 hown5;go_wp2_with fail
      refine (blanks_c D bp A C D.n 1 _ hp5.out (by omega)).mono ?_;rintro e w6 ⟨rfl,hp6,hk6⟩;have hp6:Hid (PS D bp A C w6 D.n 1):=(by rw [hz.out] at hp6;exact hp6);have hk6:=qqh (Kp.trans hk5.out hk6);go_wp2_with fail
      refine (peek_c D bp A C D.n 1 0 _ hp6.out (by omega) (by omega) (by omega)).mono ?_;rintro e w7 ⟨rfl,nq7,rfl⟩;simp only [Int.toNat_zero,Nat.add_zero];go_wp2_with fail
      go_ret;rw [hf.out];exact ⟨⟨_,rfl,hsl.out⟩,hp6.out.drewN _,hk6.out.drewN _⟩
     | opn =>
      have hf:Hid (keyP D at_=.opn):=hf0;have hz:Hid (wsEnd D D.n=D.n):=wsEnd_stop (by rw [D.out _ (qqr _)];omega);have hz2:=D.out D.n (qqr _);have e46:((D.c D.n:Int) != 46)=true:=(by rw [bne_iff_ne];omega);have hsl:=qqh (IsSl.own hown5);clear hz2 hown5;go_wp2_with fail
      refine (blanks_c D bp A C D.n 2 _ hp5.out (by omega)).mono ?_;rintro e w6 ⟨rfl,hp6,hk6⟩;have hp6:Hid (PS D bp A C w6 D.n 2):=(by rw [hz.out] at hp6;exact hp6);have hk6:=qqh (Kp.trans hk5.out hk6);go_wp2_with fail
      refine (peek_c D bp A C D.n 2 0 _ hp6.out (by omega) (by omega) (by omega)).mono ?_;rintro e w7 ⟨rfl,nq7,rfl⟩;simp only [Int.toNat_zero,Nat.add_zero];go_wp2_with fail
      go_ret;rw [hf.out];exact ⟨⟨_,rfl,hsl.out⟩,hp6.out.drewN _,hk6.out.drewN _⟩
  ·have nq1:((D.c j:Int) == 34)=false:=qqn (by omega);have nq2:((D.c j:Int) == 39)=false:=qqn (by omega);cases hb:bareB (D.c j) with
   | false =>
    have hf:Hid (keyP D at_=.bad):=(by show _=_;rw [hd.out,key_none (by rw [HJ.out];exact hq) (by rw [HJ.out];exact hb)]);have hb:=qqh hb;clear hq;go_wp2_with fail
    refine (peek_c D bp A C j 0 0 _ hp1.out (by omega) (by omega) (by omega)).mono ?_;rintro e w2 ⟨rfl,nq,rfl⟩;simp only [Int.toNat_zero,Nat.add_zero];go_wp2_with fail
    refine (bare_c (D.c j) _ hcl).mono ?_;rintro e w2 ⟨rfl,rfl⟩;rw [hb.out];go_wp2_with fail
    refine (fail_c D bp A C j 0 _ (hp1.out.drewN _)).mono ?_;rintro e w3 ⟨rfl,hp3,hk3⟩;have hk3:=qqh (Kp.trans (hk1.out.drewN _) hk3);have hp3:=qqh hp3;go_wp2_with fail
    go_ret;rw [hf.out];exact ⟨⟨_,rfl,⟨_,_,_,rfl⟩⟩,hp3.out,hk3.out⟩
   | true =>
    have hin:=Doc.in_of (bareB_nz hb);have hge:=bareEnd_ge D j;have hgo:=bareEnd_go hb;have hge2:=(bareEnd_ge D (j+1)).1;obtain ⟨k2,hk2⟩:∃ k2,bareEnd D j=k2:=⟨_,rfl⟩;have hf:Hid (keyP D at_=keyThen D k2 (acc++[D.sub j (k2 - j)])):=(by show _=_;rw [hd.out,key_bare (by rw [HJ.out];exact hq) (by rw [HJ.out];exact hb),HJ.out,hk2]);rw [hk2] at hge hgo;have hk2n:k2<=D.n:=hge.2 (by omega);have hk2j:j+1<=k2:=(by rw [hgo];exact hge2);have HK2:=qqh hk2;have hb:=qqh hb;obtain ⟨bd,o,hAe,hc⟩:=hp1.out.byte hin;have hC1:=hp1.out.doc.1;have hC2:=hp1.out.doc.2.1;clear hq hge hgo hge2 hk2 hc;go_wp2_with fail
    refine (peek_c D bp A C j 0 0 _ hp1.out (by omega) (by omega) (by omega)).mono ?_;rintro e w2 ⟨rfl,nq,rfl⟩;simp only [Int.toNat_zero,Nat.add_zero];go_wp2_with fail
    refine (bare_c (D.c j) _ hcl).mono ?_;rintro e w2 ⟨rfl,rfl⟩;rw [hb.out];go_wp2_with fail
    go_loopw [47] (fun _ wi => ∃ i,j<=i/\i<=D.n/\Hid (bareEnd D i=k2)/\Hid (PS D bp A C wi i 0)/\Hid (OwnS wi w.heap.size u3 acc)/\Hid (Kp (Only bp) w wi)) (fun _ wi => left D bp wi)
    case atStart => exact ⟨j,qqr _,by omega,HK2.out,hp1.out.drewN _,own_drewN hown1.out _,hk1.out.drewN _⟩
    case round =>
     obtain ⟨i,hij,hin,hie,hpi,howni,hki⟩:=hrel;have icl:=D.lt i;have i1:=hpi.out.c1;have if1:=hpi.out.f 1;have isz:=hki.out.size;cases hbi:bareB (D.c i) with
     | true =>
      have iin:=Doc.in_of (bareB_nz hbi);have hie2:Hid (bareEnd D (i+1)=k2):=(by show _=_;rw [<- hie.out,bareEnd_go hbi]);have hbi:=qqh hbi;go_wp2_with fail
      refine (peek_c D bp A C i 0 0 _ hpi.out (by omega) (by omega) (by omega)).mono ?_;rintro e w2 ⟨rfl,nqi,rfl⟩;simp only [Int.toNat_zero,Nat.add_zero];go_wp2_with fail
      refine (bare_c (D.c i) _ icl).mono ?_;rintro e w2 ⟨rfl,rfl⟩;rw [hbi.out];go_wp2_with fail
      go_roundw
      case rel => exact ⟨i+1,by omega,by omega,hie2.out,PS.setAt (hpi.out.drewN _) _ (i+1) (by omega),own_put (own_drewN howni.out _) hbl _,Kp.putOnly (hki.out.drewN _) _⟩
      case measure => rw [hpi.out.left,(PS.setAt (hpi.out.drewN _) _ (i+1) (by omega)).left];omega
     | false =>
      have hie2:i=k2:=(by rw [<- hie.out,bareEnd_stop hbi]);subst hie2;have hbi:=qqh hbi;go_wp2_with fail
      refine (peek_c D bp A C i 0 0 _ hpi.out (by omega) (by omega) (by omega)).mono ?_;rintro e w2 ⟨rfl,nqi,rfl⟩;simp only [Int.toNat_zero,Nat.add_zero];go_wp2_with fail
      refine (bare_c (D.c i) _ icl).mono ?_;rintro e w2 ⟨rfl,rfl⟩;rw [hbi.out];go_wp2_with fail
      refine wp_at (fun W => Hid (PS D bp A C W i 0)/\Hid (OwnS W w.heap.size u3 acc)/\Hid (Kp (Only bp) w W)) ⟨hpi.out.drewN _,own_drewN howni.out _,hki.out.drewN _⟩ ?_;rintro W ⟨hpW,hownW,hkW⟩;have z0:=hpW.out.c0;have z1:=hpW.out.c1;rw [hAe] at z0;have hcW:=hpW.out.bytesAt hAe;have hsl:∀ w',(Instr.slice 22 (.slice (some ⟨bd,o,none⟩) D.n C) (some (.int .i64 (j:Int))) (some (.int .i64 (i:Int))) none).run Tryz.prog w'=.ok (.slice (some ⟨bd,o+j,none⟩) (i - j) (C - j)) w':=slice_lh bd o D.n C _ _ j (i - j) rfl (by omega) (by omega) (by omega);have hcv:(convert 22 9 (.slice (some ⟨bd,o+j,none⟩) (i - j) (C - j))).run Tryz.prog W.drew=.ok (.string ⟨(D.sub j (i - j)).toArray⟩) W.drew:=conv_doc D bd o j (i - j) (C - j) W.drew hcW (by omega);have HW:=hkW.out.size;clear hcW
      go_region_law (refine step_app rfl T40 _ _ rfl w.heap.size _ acc.length (acc.map sv) rfl (by exact own_drew (own_alloc hownW.out _)) W.heap.size 1 _ rfl [sv (D.sub j (i - j))] rfl (fun i u hu => by (cases i with | zero => (show (World.alloc W (Obj.cells #[sv (D.sub j (i - j))] 9)).cell? _=_;rw [cell_new (by simp)];exact hu) | succ i => (simp at hu))) (fun u hu => by (simp at hu;subst hu;rfl)) (by omega) (by omega) (by simp;omega) ?_;intro v' w5 hown5 hg5)
      all_goals
       have hp5:=qqh (PS.grownL (PS.drew (PS.alloc hpW.out _)) (own_drew (own_alloc hownW.out _)) hg5 hbl hA);have hk5:=qqh (Kp.grownL (S:=Only bp) (a:=w) (Kp.drew (Kp.alloc hkW.out _)) (own_drew (own_alloc hownW.out _)) (qqr _) hg5);clear hg5;have hown5:Hid (OwnS w5 w.heap.size v' (acc++[D.sub j (i - j)])):=(by show OwnS _ _ _ _;unfold OwnS;rw [qqa,List.map_append];exact hown5);go_wp2_with fail
       have twle:=wsEnd_le D (i);have twge:=wsEnd_ge D (i);refine (blanks_c D bp A C (i) 0 _ hp5.out (by omega)).mono ?_;rintro e w6 ⟨rfl,hp6,hk6⟩;have hown6:=qqh (own_kp hown5.out hk6 (fun g hg hS => by have:=hown5.out.lt g hg;have hS:g=bp:=hS;omega));have hk6:=qqh (Kp.trans hk5.out hk6);have hp6:=qqh hp6;obtain ⟨t,htt⟩:∃ t,wsEnd D (i)=t:=⟨_,rfl⟩;rw [htt] at hp6 twle twge;have HT:=qqh htt;clear htt;have r1:=hp6.out.c1;have rf:=hp6.out.f 1;have tcl:=D.lt t;by_cases hdot:D.c t=46
       ·have e46:((D.c t:Int) != 46)=false:=(by rw [bne_eq_false_iff_eq];omega);have tin:=Doc.in_of (D:=D) (k:=t) (by omega);have hf2:Hid (keyP D at_=keyRun D (t+1) (acc++[D.sub j (i - j)])):=(by show _=_;rw [hf.out,keyThen,HT.out,if_pos hdot]);clear hdot;go_wp2_with fail
        refine (peek_c D bp A C t 0 0 _ hp6.out (by omega) (by omega) (by omega)).mono ?_;rintro e w7 ⟨rfl,nq7,rfl⟩;simp only [Int.toNat_zero,Nat.add_zero];go_wp2_with fail
        go_roundw
        case rel => exact ⟨t+1,acc++[D.sub j (i - j)],by omega,by rw [qqa,List.length_singleton];omega,hf2.out,PS.setAt (hp6.out.drewN _) _ (t+1) (by omega),own_put (own_drewN hown6.out _) hbl _,Kp.putOnly (hk6.out.drewN _) _⟩
        case measure => rw [hp.out.left,(PS.setAt (hp6.out.drewN _) _ (t+1) (by omega)).left];omega
       ·have e46:((D.c t:Int) != 46)=true:=(by rw [bne_iff_ne];omega);have hf2:Hid (keyP D at_=.good (acc++[D.sub j (i - j)]) t):=(by show _=_;rw [hf.out,keyThen,HT.out,if_neg hdot]);clear hdot;go_wp2_with fail
        refine (peek_c D bp A C t 0 0 _ hp6.out (by omega) (by omega) (by omega)).mono ?_;rintro e w7 ⟨rfl,nq7,rfl⟩;simp only [Int.toNat_zero,Nat.add_zero];go_wp2_with fail
        go_ret;rw [hf2.out];exact ⟨⟨_,rfl,own_drewN hown6.out _⟩,hp6.out.drewN _,hk6.out.drewN _⟩
structure NS (D:Doc) (bp:Nat) (A:Option Addr) (C:Nat) (w0:World) (R:Nat) (xs:List Value) (t:TypeId) (w:World) (at_ st:Nat):Prop where
 ps:PS D bp A C w at_ st
 blk:Blk w R xs t
 kp:Kp (Only bp) w0 w
 old:w0.heap.size<=R
 ne:R ≠ bp
 neA:∀ a,A=some a->a.block ≠ R
theorem NS.start {D:Doc} {bp:Nat} {A:Option Addr} {C:Nat} {w:World} {at_ st:Nat} (hp:PS D bp A C w at_ st) (hA:∀ a,A=some a->a.block<w.heap.size) (R:Nat) (hR:R=w.heap.size) (xs:List Value) (t:TypeId) :
  NS D bp A C w R xs t (w.alloc (.cells xs.toArray t)) at_ st :=
 hR ▸ ⟨hp.alloc _,Blk.new _ _ _,(Kp.refl _ _).alloc _,qqr _,by have:=hp.blk.lt;omega,fun a ha => Nat.ne_of_lt (hA a ha)⟩
theorem NS.drewN {D:Doc} {bp:Nat} {A:Option Addr} {C:Nat} {w0 w:World} {R:Nat} {xs:List Value} {t:TypeId} {at_ st:Nat} (h:NS D bp A C w0 R xs t w at_ st) (n:Nat):NS D bp A C w0 R xs t (w.drewN n) at_ st :=
 ⟨h.ps.drewN n,h.blk,h.kp.drewN n,h.old,h.ne,h.neA⟩
theorem NS.drew {D:Doc} {bp:Nat} {A:Option Addr} {C:Nat} {w0 w:World} {R:Nat} {xs:List Value} {t:TypeId} {at_ st:Nat} (h:NS D bp A C w0 R xs t w at_ st):NS D bp A C w0 R xs t w.drew at_ st :=
 ⟨h.ps.drew,h.blk,h.kp.drew,h.old,h.ne,h.neA⟩
theorem NS.call {D:Doc} {bp:Nat} {A:Option Addr} {C:Nat} {w0 w w':World} {R:Nat} {xs:List Value} {t:TypeId} {at_ st at' st':Nat} (h:NS D bp A C w0 R xs t w at_ st) (hp:PS D bp A C w' at' st') (hk:Kp (Only bp) w w'):NS D bp A C w0 R xs t w' at' st' :=
 ⟨hp,h.blk.kpOnly hk h.ne,h.kp.trans hk,h.old,h.ne,h.neA⟩
theorem NS.put {D:Doc} {bp:Nat} {A:Option Addr} {C:Nat} {w0 w:World} {R:Nat} {xs:List Value} {t:TypeId} {at_ st:Nat} (h:NS D bp A C w0 R xs t w at_ st) (i:Nat) (v:Value):NS D bp A C w0 R (xs.set i v) t (w.setCell ⟨R,i,none⟩ v) at_ st :=
 ⟨h.ps.other h.ne h.neA v,h.blk.put i v,h.kp.setCell (p:=⟨R,i,none⟩) (.inr h.old) v,h.old,h.ne,h.neA⟩
theorem NS.alloc {D:Doc} {bp:Nat} {A:Option Addr} {C:Nat} {w0 w:World} {R:Nat} {xs:List Value} {t:TypeId} {at_ st:Nat} (h:NS D bp A C w0 R xs t w at_ st) (o:Obj):NS D bp A C w0 R xs t (w.alloc o) at_ st :=
 ⟨h.ps.alloc o,h.blk.alloc o,h.kp.alloc o,h.old,h.ne,h.neA⟩
def dtPos (D:Doc) (k:Nat):Nat:=if datedB D k=true then D.n else k
def dtSt (D:Doc) (k st:Nat):Nat:=if datedB D k=true then 2 else st
def leafV (k:Nat) (l:List UInt8):Value:=.agg #[.int .i64 k,.string ⟨l.toArray⟩,.slice none 0 0,.slice none 0 0]
def LeafOk (r:R (Nat × List UInt8)) (v:Value):Prop:=match r with | .good x _ => v=leafV x.1 x.2 | _ => ∃ k l,v=leafV k l
theorem dated_c (D:Doc) (bp:Nat) (A:Option Addr) (C:Nat) (at_ st:Nat) (k:Nat) (l:List UInt8) (w:World) (hp:PS D bp A C w at_ st) (hat:at_<=1073741900) (hA:∀ a,A=some a->a.block<w.heap.size) :
  Calls Tryz.prog 72 #[.pointer (some ⟨bp,0,none⟩),leafV k l] w fun e w' => e=.returned (leafV k l)/\PS D bp A C w' (dtPos D at_) (dtSt D at_ st)/\Kp (Only bp) w w':=by
 obtain ⟨S,hS⟩:∃ S:ByteArray,S=⟨l.toArray⟩:=⟨_,rfl⟩;unfold leafV;rw [<- hS];clear hS;have hlt:=hp.blk.lt;have hN1:=qqh (NS.start hp hA w.heap.size rfl [.int .i64 (k:Nat),.string S,.slice none 0 0,.slice none 0 0] 43);have hA1:∀ a,A=some a->a.block<(w.alloc (.cells #[.int .i64 (k:Nat),.string S,.slice none 0 0,.slice none 0 0] 43)).heap.size:=fun a ha => by have:=hA a ha;simp;omega
 have hN:=qqh (NS.start hN1.out.ps hA1 (w.heap.size+1) (by simp) [.int .i64 0,.string ⟨#[]⟩,.slice none 0 0,.slice none 0 0] 43);clear hp hA hA1;have hd:Hid (datedB D at_=decide (48<=D.c at_/\D.c at_<=57\/D.c at_=45\/D.c at_=43\/D.c at_=58\/D.c at_=46\/D.c at_=84\/D.c at_=116\/D.c at_=90\/D.c at_=122\/D.c at_=32/\48<=D.c (at_+1)/\D.c (at_+1)<=57)):=rfl;go_enter Tryz.func72,Tryz.ntmps72;go_wp2_with fail
 refine (peek_c D bp A C at_ st 0 _ hN.out.ps (by omega) (by omega) (by omega)).mono ?_;rintro e w1 ⟨rfl,nq1,rfl⟩;go_wp2_with fail
 refine (peek_c D bp A C at_ st 1 _ (by exact hN.out.ps.drewN _) (by omega) (by omega) (by omega)).mono ?_;rintro e w1 ⟨rfl,nq2,rfl⟩;simp only [Int.toNat_one];go_wp2_with fail
 all_goals first
  | (
    refine (open_c D bp A C at_ st _ (by exact hN.out.ps.drewN _)).mono ?_
    rintro e w1 ⟨rfl,hp1,hk1⟩
    have hM1:=qqh (NS.call (hN1.out.alloc _ |>.drewN _) hp1 hk1)
    have hM:=qqh (NS.call (hN.out.drewN _) hp1 hk1)
    have hf:Hid (datedB D at_=true):=by
     show _=_;rw [hd.out,decide_eq_true_iff];(try simp only [beq_iff_eq] at *);omega
    have a0:=hM1.out.blk.cell 0 rfl
    have a1:=hM1.out.blk.cell 1 rfl
    have a2:=hM1.out.blk.cell 2 rfl
    have a3:=hM1.out.blk.cell 3 rfl
    have b0:=hM.out.blk.cell 0 rfl
    have b1:=hM.out.blk.cell 1 rfl
    have b2:=hM.out.blk.cell 2 rfl
    have b3:=hM.out.blk.cell 3 rfl
    have g0:=hM.out.blk.free 0
    have g1:=hM.out.blk.free 1
    have g2:=hM.out.blk.free 2
    have g3:=hM.out.blk.free 3
    clear hp1 hk1
    go_wp2_with fail
    refine bodyPost_ret (v:=.agg #[.int .i64 (k:Nat),.string S,.slice none 0 0,.slice none 0 0]) (by simp [results,Tryz.results72,go_sem,b0,b1,b2,b3]) rfl ⟨rfl,?_,?_⟩
    ·have h:=NS.put (NS.put (NS.put (NS.put hM.out 0 (.int .i64 (k:Nat))) 1 (.string S)) 2 (.slice none 0 0)) 3 (.slice none 0 0)
     unfold dtPos dtSt;rw [if_pos hf.out,if_pos hf.out];exact h.ps
    ·exact Kp.setCell (Kp.setCell (Kp.setCell (Kp.setCell hM1.out.kp (.inr (by simp)) _) (.inr (by simp)) _) (.inr (by simp)) _) (.inr (by simp)) _)
  | (
    have hf:Hid (datedB D at_=false):=by
     show _=_;rw [hd.out,decide_eq_false_iff_not];(try simp only [beq_eq_false_iff_ne] at *);omega
    have hM1:=qqh (hN1.out.alloc (.cells #[.int .i64 0,.string ⟨#[]⟩,.slice none 0 0,.slice none 0 0] 43))
    have a0:=hM1.out.blk.cell 0 rfl
    have a1:=hM1.out.blk.cell 1 rfl
    have a2:=hM1.out.blk.cell 2 rfl
    have a3:=hM1.out.blk.cell 3 rfl
    have b0:=hN.out.blk.cell 0 rfl
    have b1:=hN.out.blk.cell 1 rfl
    have b2:=hN.out.blk.cell 2 rfl
    have b3:=hN.out.blk.cell 3 rfl
    have g0:=hN.out.blk.free 0
    have g1:=hN.out.blk.free 1
    have g2:=hN.out.blk.free 2
    have g3:=hN.out.blk.free 3
    refine bodyPost_ret (v:=.agg #[.int .i64 (k:Nat),.string S,.slice none 0 0,.slice none 0 0]) (by simp [results,Tryz.results72,go_sem]) rfl ⟨rfl,?_,?_⟩
    ·have h:=NS.put (NS.put (NS.put (NS.put (NS.drewN hN.out (nq1+nq2)) 0 (.int .i64 (k:Nat))) 1 (.string S)) 2 (.slice none 0 0)) 3 (.slice none 0 0)
     unfold dtPos dtSt;rw [if_neg (by simp [hf.out]),if_neg (by simp [hf.out])];exact h.ps
    ·exact Kp.setCell (Kp.setCell (Kp.setCell (Kp.setCell (Kp.drewN hM1.out.kp _) (.inr (by simp)) _) (.inr (by simp)) _) (.inr (by simp)) _) (.inr (by simp)) _)
def IsNode (cs:List Value):Prop:=∃ (k:Int) (l:ByteArray) (vi vk:Value),cs=[.int .i64 k,.string l,vi,vk]/\IsSl vi/\IsSl vk
theorem RepT.node {w:World} {base:Nat} {S:Nat->Prop} {t:Tree} {cs:List Value} (h:RepT w base S t cs):IsNode cs:=by
 cases t with
 | mk k l items keys => rw [RepT.iff] at h;obtain ⟨vi,vk,xs,rfl,h1,_,_,h2,_⟩:=h;exact ⟨_,_,_,_,rfl,IsSl.own h1,IsSl.own h2⟩
theorem IsNode.one {cs:List Value} (h:IsNode cs):∀ u ∈ cs,u.oneCell'=true:=by
 obtain ⟨k,l,vi,vk,rfl,⟨a,b,c,rfl⟩,⟨a',b',c',rfl⟩⟩:=h;intro u hu;simp at hu;rcases hu with rfl | rfl | rfl | rfl <;> rfl
theorem IsNode.length {cs:List Value} (h:IsNode cs):cs.length=4:=by
 obtain ⟨k,l,vi,vk,rfl,_⟩:=h;rfl
def ValOk (r:R Tree) (w:World) (base:Nat) (cs:List Value):Prop:=match r with | .good t _ => RepT w base (fun _ => True) t cs | _ => IsNode cs
theorem ValOk.node {r:R Tree} {w:World} {base:Nat} {cs:List Value} (h:ValOk r w base cs):IsNode cs:=by
 cases r with
 | good t k => exact RepT.node h
 | bad => exact h
 | opn => exact h
def ValPost (D:Doc) (bp:Nat) (A:Option Addr) (C:Nat) (w:World) (r:R Tree) (e:Ending) (w':World):Prop :=
 (∃ cs,e=.returned (.agg cs.toArray)/\ValOk r w' w.heap.size cs)/\PS D bp A C w' (r.pos D) (r.st 0)/\Kp (Only bp) w w'
def ValC (D:Doc) (d:Nat):Prop:=∀ (bp:Nat) (A:Option Addr) (C k:Nat) (w:World) (dep:Int),dep=51 - (d:Int)->PS D bp A C w k 0->k<=D.n->(∀ a,A=some a->a.block<w.heap.size) ->
 Calls Tryz.prog 24 #[.pointer (some ⟨bp,0,none⟩),.int .i64 dep] w (ValPost D bp A C w (valP D d k))
def deadSt (d st:Nat):Nat:=if d=0 then 2 else st
def ValD (D:Doc) (d:Nat):Prop:=∀ (bp:Nat) (A:Option Addr) (C st:Nat) (w:World) (dep:Int),dep=51 - (d:Int)->PS D bp A C w D.n st->st ≠ 0->(∀ a,A=some a->a.block<w.heap.size) ->
 Calls Tryz.prog 24 #[.pointer (some ⟨bp,0,none⟩),.int .i64 dep] w (fun e w' => (∃ cs,e=.returned (.agg cs.toArray)/\IsNode cs)/\PS D bp A C w' D.n (deadSt d st)/\Kp (Only bp) w w')
structure LW (D:Doc) (bp:Nat) (A:Option Addr) (C:Nat) (w0:World) (kind:Nat) (v:Value) (n:Nat) (xs:List Value) (w:World) (at_ st:Nat):Prop where
 ps:PS D bp A C w at_ st
 kp:Kp (Only bp) w0 w
 res:Blk w w0.heap.size [.int .i64 0,.string ⟨#[]⟩,.slice none 0 0,.slice none 0 0] 43
 out:Blk w (w0.heap.size+1) [.int .i64 (kind:Nat),.string ⟨#[]⟩,v,.slice none 0 0] 43
 own:w.ownsRow (w0.heap.size+2) 43 4 v n xs
 lt:bp<w0.heap.size
 ltA:∀ a,A=some a->a.block<w0.heap.size
variable {D:Doc} {bp:Nat} {A:Option Addr} {C:Nat} {w0 w w':World} {kind:Nat} {v:Value} {n:Nat} {xs:List Value} {at_ st:Nat}
theorem LW.drewN (h:LW D bp A C w0 kind v n xs w at_ st) (m:Nat):LW D bp A C w0 kind v n xs (w.drewN m) at_ st:=⟨h.ps.drewN m,h.kp.drewN m,h.res,h.out,h.own,h.lt,h.ltA⟩
theorem LW.drew (h:LW D bp A C w0 kind v n xs w at_ st):LW D bp A C w0 kind v n xs w.drew at_ st:=⟨h.ps.drew,h.kp.drew,h.res,h.out,h.own,h.lt,h.ltA⟩
theorem LW.alloc (h:LW D bp A C w0 kind v n xs w at_ st) (o:Obj):LW D bp A C w0 kind v n xs (w.alloc o) at_ st:=⟨h.ps.alloc o,h.kp.alloc o,h.res.alloc o,h.out.alloc o,own_alloc h.own o,h.lt,h.ltA⟩
theorem LW.call {at' st':Nat} (h:LW D bp A C w0 kind v n xs w at_ st) (hp:PS D bp A C w' at' st') (hk:Kp (Only bp) w w'):LW D bp A C w0 kind v n xs w' at' st' :=
 ⟨hp,h.kp.trans hk,h.res.kpOnly hk (by have:=h.lt;omega),h.out.kpOnly hk (by have:=h.lt;omega),own_kp h.own hk (fun g hg hS => by have h1:=h.own.lt g hg;have h2:g=bp:=hS;have:=h.lt;omega),h.lt,h.ltA⟩
theorem LW.setAt (h:LW D bp A C w0 kind v n xs w at_ st) (k:Int) (k':Nat) (e:k=(k':Int)):LW D bp A C w0 kind v n xs (w.setCell ⟨bp,1,none⟩ (.int .i64 k)) k' st :=
 h.call (h.ps.setAt k k' e) ((Kp.refl _ _).putOnly _)
theorem LW.grown {v':Value} {n':Nat} {ys:List Value} (h:LW D bp A C w0 kind v n xs w at_ st) (hg:w.grownBy w' v.ownBlock) (ho:w'.ownsRow (w0.heap.size+2) 43 4 v' n' ys) :
  LW D bp A C w0 kind v' n' ys (w'.setCell ⟨w0.heap.size+1,2,none⟩ v') at_ st:=by
 have hb:∀ k,some k=v.ownBlock->w0.heap.size+2<=k:=fun k hk => (h.own.lt k hk.symm).1
 have hk:Kp (fun k => some k=v.ownBlock) w w':=Kp.ofGrown hg;have hlt:=h.lt;refine ⟨?_,?_,?_,?_,?_,h.lt,h.ltA⟩
 ·exact PS.other (h.ps.kp hk (fun e => by have:=hb bp e;omega) (fun a ha e => by have:=hb a.block e;have:=h.ltA a ha;omega)) (by omega) (fun a ha e => by have:=h.ltA a ha;omega) _
 ·exact Kp.setCell (h.kp.grown hg (fun k hk => .inr (by have:=hb k hk.symm;omega))) (.inr (by simp)) _
 ·exact Blk.other (h.res.kp hk (fun e => by have:=hb _ e;omega)) (by simp) _
 ·exact (h.out.kp hk (fun e => by have:=hb _ e;omega)).put 2 v'
 ·exact ownsRow_setCell_below ho (by simp) _
theorem LW.outG (h:LW D bp A C w0 kind v n xs w at_ st) (hg:w.grownBy w' v.ownBlock):Blk w' (w0.heap.size+1) [.int .i64 (kind:Nat),.string ⟨#[]⟩,v,.slice none 0 0] 43 :=
 h.out.kp (Kp.ofGrown hg) (fun e => by have:=(h.own.lt _ e.symm).1;omega)
theorem RepL.call {ts:List Tree} (h:LW D bp A C w0 kind v n xs w at_ st) (hr:RepL w (w0.heap.size+2) (fun b => v.ownBlock ≠ some b) ts xs) (hk:Kp (Only bp) w w'):RepL w' (w0.heap.size+2) (fun b => v.ownBlock ≠ some b) ts xs :=
 RepL.leave (fun b h1 h2 => ⟨h1,fun hl => hk.block b hl (fun e => by have e:b=bp:=e;have:=h.lt;omega)⟩) (qqr _) ts xs hr
theorem RepL.grown {v':Value} {n':Nat} {ts:List Tree} {t:Tree} {cs ys:List Value} {wv:World} (h:LW D bp A C w0 kind v n xs w at_ st) (hr:RepL w (w0.heap.size+2) (fun b => v.ownBlock ≠ some b) ts xs)
  (hv:RepT w wv.heap.size (fun b => v.ownBlock ≠ some b) t cs) (hwv:w0.heap.size+2<=wv.heap.size) (hg:w.grownBy w' v.ownBlock) (ho:w'.ownsRow (w0.heap.size+2) 43 4 v' n' ys)
  (hnew:Fresh w v v'):RepL (w'.setCell ⟨w0.heap.size+1,2,none⟩ v') (w0.heap.size+2) (fun b => v'.ownBlock ≠ some b) (ts++[t]) (xs++cs):=by
 have hx:∀ b,(v.ownBlock ≠ some b/\b<w.heap.size)->w0.heap.size+2<=b->(v'.ownBlock ≠ some b)/\(b<w.heap.size->(w'.setCell ⟨w0.heap.size+1,2,none⟩ v').heap[b]?=w.heap[b]?):=by
  intro b ⟨hb1,hb2⟩ hb3;refine ⟨fun e => ?_,fun hl => ?_⟩
  ·rcases hnew with hn | hn
   ·exact hb1 (hn ▸ e)
   ·have:=hn b e;omega
  ·rw [Below.heap_setCell _ _ _ _ (by simp;omega)];exact hg.block b hl (fun e => hb1 e.symm)
 exact RepL.append (RepL.leave hx (qqr _) ts xs (RepL.there ts xs hr)) (RepT.one (RepT.leave (fun b hb1 hb2 => hx b hb1 (by omega)) hwv t cs (RepT.there t cs hv)))
end Go.Proofs.YtpgmddjgcgpoeaaGreat
