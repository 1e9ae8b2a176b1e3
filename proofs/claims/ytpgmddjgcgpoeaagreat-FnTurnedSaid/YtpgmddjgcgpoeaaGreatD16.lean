/-
  A part of the proof.
-/
import Derived.Test.YtpgmddjgcgpoeaaGreatD11
import Derived.Test.YtpgmddjgcgpoeaaGreatD08
set_option linter.unusedVariables false
set_option linter.unusedSimpArgs false
set_option maxRecDepth 100000
set_option maxHeartbeats 8000000
namespace Go.Proofs.YtpgmddjgcgpoeaaGreat
open Go.RowKit
def left2 (D:Doc) (bp:Nat) (w:World):Nat:=2 * left D bp w+(match w.cell? ⟨bp,2,none⟩ with | some (.int _ q) => if q=0 then 1 else 0 | _ => 0)
theorem PS.left2 {D:Doc} {bp:Nat} {A:Option Addr} {C:Nat} {w:World} {at_ st:Nat} (h:PS D bp A C w at_ st):left2 D bp w=2 * (D.n - at_)+(if st=0 then 1 else 0):=by
 unfold YtpgmddjgcgpoeaaGreat.left2;rw [h.left,h.c2];simp
theorem PS.bytesAt {D:Doc} {bp:Nat} {A:Option Addr} {C:Nat} {w:World} {at_ st:Nat} (h:PS D bp A C w at_ st) {bd o:Nat} (hA:A=some ⟨bd,o,none⟩):∀ i,i<D.n->w.cell? ⟨bd,o+i,none⟩=some (.int .u8 (D.c i)):=by
 intro i hi;obtain ⟨bd',o',hA',hc⟩:=h.byte hi;rw [hA] at hA';injection hA' with hA';injection hA' with h1 h2;subst h1 h2;exact hc i hi
theorem sub_cells {D:Doc} {w:World} {bd o k m:Nat} (hc:∀ i,i<D.n->w.cell? ⟨bd,o+i,none⟩=some (.int .u8 (D.c i))) (hm:k+m<=D.n) :
  ∀ j (hj:j<(D.sub k m).length),w.cell? ⟨bd,o+k+j,none⟩=some (.int .u8 ((D.sub k m)[j].toNat:Int)):=by
 intro j hj;have hj':j<m:=by rw [Doc.sub_length] at hj;exact hj
 rw [Nat.add_assoc,hc (k+j) (by omega),Doc.sub_get,Doc.toNat_ofNat]
theorem OwnB.made {w:World} {b base:Nat} (hb:b=w.heap.size) (hle:base<=b):OwnB (w.alloc (.cells #[] 5)) base (.slice (some ⟨b,0,none⟩) 0 0) []:=by
 subst hb;exact World.ownsRow_made (size:=1) w #[] 0 hle (by decide) rfl
theorem escape_c (D:Doc) (bp:Nat) (A:Option Addr) (C:Nat) (at_ st:Nat) (w:World) (hp:PS D bp A C w at_ st) (hat:at_<=1073741900) :
  Calls Tryz.prog 68 #[.pointer (some ⟨bp,0,none⟩)] w fun e w' => e=.returned (.string ⟨(esc D at_).list.toArray⟩)/\PS D bp A C w' ((esc D at_).pos D) ((esc D at_).st st)/\Kp (Only bp) w w':=by
 by_cases hb:escB (D.c at_)=0
 ·exact escape_b D bp A C at_ st w hp hat hb
 ·have e:esc D at_=.good [UInt8.ofNat (escB (D.c at_))] (at_+1):=by unfold esc;rw [if_pos hb]
  rw [e];exact escape_a D bp A C at_ st w hp hat hb
theorem encN_len (v:Nat):(encN v).length<=4/\(v<65536->(encN v).length<=3):=by
 unfold encN;(repeat' split) <;> simp <;> omega
theorem escV_lt (D:Doc) (k m j:Nat) (hm:m<=dgN D 16 k):∀ v,v<16 ^ j->escV D k v m<16 ^ (j+m):=by
 induction m generalizing k j with
 | zero => intro v hv;exact hv
 | succ m ih =>
  intro v hv;rw [escV];have h0:=dgN_get D 16 k (m+1) 0 hm (by omega);have h1:m<=dgN D 16 (k+1):=by
   rw [dgN] at hm;split at hm <;> omega
  have:=ih (k+1) (j+1) h1 (16 * v+dval (D.c k)) (by rw [Nat.pow_succ];rw [Nat.add_zero] at h0;omega);rw [show j+(m+1)=j+1+m by omega];exact this
theorem esc_len (D:Doc) (k k':Nat) (l:List UInt8) (h:esc D k=.good l k'):l.length<=k' - k:=by
 unfold esc at h;split at h
 ·injection h with h1 h2;subst h1;simp;omega
 split at h
 ·cases h
 split at h
 ·cases h
 split at h
 ·cases h
 split at h
 ·cases h
 ·rename_i h0 _ h2 h3 _;injection h with h1 h2;subst h1;have hl:=encN_len (escV D (k+1) 0 (escM (D.c k)));have hv:=escV_lt D (k+1) (escM (D.c k)) 0 (by omega) 0 (by simp);rw [show (encU (escV D (k+1) 0 (escM (D.c k)))).length=(encN (escV D (k+1) 0 (escM (D.c k)))).length by simp [encU]];have:escM (D.c k)=4\/escM (D.c k)=8:=by revert h2;unfold escM at *;(repeat' split at *) <;> omega
  rcases this with h | h
  ·rw [h] at hv hl ⊢;have:=hl.2 (by simpa using hv);omega
  ·omega
theorem text_c (D:Doc) (bp:Nat) (A:Option Addr) (C:Nat) (at_ q:Nat) (w:World) (hp:PS D bp A C w at_ 0) (hat:at_<=1073741900) (hA:∀ a,A=some a->a.block<w.heap.size) (hq:q=34\/q=39) :
  Calls Tryz.prog 44 #[.pointer (some ⟨bp,0,none⟩),.int .u8 q] w fun e w' => e=.returned (.string ⟨(txt D q at_).list.toArray⟩)/\PS D bp A C w' ((txt D q at_).pos D) ((txt D q at_).st 0)/\Kp (Only bp) w w':=by
 have hs:=D.small;have HP:=qqh hp;have h1:=hp.c1;have f1:=hp.f 1;have hbl:=hp.blk.lt;clear hp;have hx:Hid (txt D q at_=txtRun D q (at_+1) []):=rfl;go_enter Tryz.func44,Tryz.ntmps44;go_wp2_with fail
 go_loopw [5] (fun v wr => ∃ (k st:Nat) (acc:List UInt8),(k<=D.n\/k=at_+1)/\acc.length<=k/\acc.length<=D.n /\
   Hid ((st=0/\txt D q at_=txtRun D q k acc)\/(st ≠ 0/\k=D.n/\(txt D q at_).pos D=D.n/\(txt D q at_).st 0=st/\(txt D q at_).list=[])) /\
   Hid (PS D bp A C wr k st)/\Hid (OwnB wr w.heap.size v acc)/\Hid (Kp (Only bp) w wr)) (fun _ wr => left2 D bp wr)
 case atStart => exact ⟨at_+1,0,[],.inr rfl,by simp,by simp,.inl ⟨rfl,hx.out⟩,PS.alloc (PS.setAt HP.out _ (at_+1) (by omega)) _,OwnB.made (by simp) (qqr _),Kp.alloc (Kp.putOnly (Kp.refl _ _) _) _⟩
 case round =>
  obtain ⟨k,st,acc,hk,hacc,haccn,hd,hp,hown,hkp⟩:=hrel;have hA':∀ a,A=some a->a.block<wr.heap.size:=fun a ha => Nat.lt_of_lt_of_le (hA a ha) hkp.out.size
  have HA':=qqh hA';clear hA';have g0:=hp.out.c0;have g1:=hp.out.c1;have g2:=hp.out.c2;have gf:=hp.out.f 1;have hsz:=qqh hkp.out.size;rcases hd.out with ⟨hst,hd1⟩ | ⟨hst,hkn,hd1,hd2,hd3⟩
  ·subst hst;have HD:=qqh hd1;clear hd1 hd;have hcl:=D.lt k;by_cases hkn:k<D.n
   ·have hkn':¬ ((D.n:Int)<=(k:Int)):=(by omega);have hkn2:decide ((D.n:Int)<=(k:Int))=false:=qqf hkn';by_cases hcq:D.c k=q
    ·have hf:Hid (txt D q at_=.good acc (k+1)):=(by show _=_;rw [HD.out,txt_end hkn hcq]);have ecq:((D.c k:Int) == (q:Int))=true:=(by rw [beq_iff_eq];omega);clear hcq;have hcv:∀ (nq:Nat) (u:Value),(convert 22 9 u5).run Tryz.prog ((wr.drewN nq).setCell ⟨bp,1,none⟩ u)=.ok (.string ⟨acc.toArray⟩) ((wr.drewN nq).setCell ⟨bp,1,none⟩ u):=fun nq u => conv_own (OwnB.put (hown.out.drewN nq) hbl u)
     go_wp2_with fail
     refine (peek_c D bp A C k 0 0 _ hp.out (by omega) (by omega) (by omega)).mono ?_;rintro e w1 ⟨rfl,nq,rfl⟩;simp only [Int.toNat_zero,Nat.add_zero];go_wp2_with fail
     go_quiet (fail)
     go_wp2_with fail
     go_ret;rw [hf.out];exact ⟨rfl,PS.setAt (hp.out.drewN _) _ (k+1) (by omega),Kp.putOnly (hkp.out.drewN _) _⟩
    ·have ecq:((D.c k:Int) == (q:Int))=false:=qqn (by omega);by_cases hb:D.c k=92/\q=34
     ·have e92:((D.c k:Int) == 92)=true:=(by rw [beq_iff_eq];omega);have e34:((q:Int) == 34)=true:=(by rw [beq_iff_eq];omega);have hf0:=qqh (txt_esc (acc:=acc) hkn hcq hb);clear hcq hb;go_wp2_with fail
      refine (peek_c D bp A C k 0 0 _ hp.out (by omega) (by omega) (by omega)).mono ?_;rintro e w1 ⟨rfl,nq,rfl⟩;simp only [Int.toNat_zero,Nat.add_zero];go_wp2_with fail
      go_quiet (fail)
      go_wp2_with fail
      refine (escape_c D bp A C (k+1) 0 _ (PS.setAt (hp.out.drewN _) _ (k+1) (by omega)) (by omega)).mono ?_;rintro e w2 ⟨rfl,hp2,hk2⟩;have hk2':=qqh (Kp.trans (Kp.putOnly (hkp.out.drewN _) _) hk2);have hown2:=qqh (OwnB.kp (OwnB.put (hown.out.drewN _) hbl _) hk2 (fun g hg hS => by have:=hown.out.lt g hg;have hS:g=bp:=hS;omega));clear hk2;obtain ⟨r,hr⟩:∃ r,esc D (k+1)=r:=⟨_,rfl⟩;rw [hr] at hp2 hf0;have hp2:=qqh hp2;have HR:=qqh hr;have hb2:=qqh hk2'.out.size;rw [hr];clear hr;have hll:acc.length+r.list.length<=4294967296:=by
       cases r with
       | good l k' =>
        have h1:=esc_len D _ _ _ HR.out;have h2:=esc_in D _ _ _ HR.out;show acc.length+l.length<=_;omega
       | bad => show acc.length+0<=_;omega
       | opn => show acc.length+0<=_;omega
      go_wp2_with (at_builtin;refine wpList_app_str rfl _ _ rfl w.heap.size _ acc r.list rfl hown2.out rfl hll hb2.out ?_)
      intro v' w3 hown3 hg3;have hp3:=qqh (PS.grown hp2.out hown2.out hg3 hbl hA);have hk3:=qqh (Kp.grownOwn hk2'.out hown2.out hg3);have hown3:=qqh hown3;clear hg3;go_wp2_with fail
      go_roundw
      case rel =>
       cases r with
       | good l k' =>
        have h1:=esc_len D _ _ _ HR.out;have h2:=esc_in D _ _ _ HR.out;exact ⟨k',0,acc++l,by omega,by rw [qqa];omega,by rw [qqa];omega,.inl ⟨rfl,HD.out.trans hf0.out⟩,hp3.out,hown3.out,hk3.out⟩
       | bad =>
        refine ⟨D.n,1,acc++[],by omega,by rw [List.append_nil];omega,by rw [List.append_nil];omega,.inr ⟨by omega,rfl,?_,?_,?_⟩,hp3.out,hown3.out,hk3.out⟩
        all_goals (have e:txt D q at_=.bad:=HD.out.trans hf0.out);rw [e];rfl
       | opn =>
        refine ⟨D.n,2,acc++[],by omega,by rw [List.append_nil];omega,by rw [List.append_nil];omega,.inr ⟨by omega,rfl,?_,?_,?_⟩,hp3.out,hown3.out,hk3.out⟩
        all_goals (have e:txt D q at_=.opn:=HD.out.trans hf0.out);rw [e];rfl
      case measure =>
       rw [hp.out.left2,hp3.out.left2];cases r with
       | good l k' =>
        have h2:=esc_in D _ _ _ HR.out;show 2 * (D.n - k')+_<_;simp only [R.st];omega
       | bad => show 2 * (D.n - D.n)+_<_;simp [R.st,failSt]
       | opn => show 2 * (D.n - D.n)+_<_;simp [R.st]
     ·have he:((D.c k:Int) == 92)=false\/(((D.c k:Int) == 92)=true/\((q:Int) == 34)=false):=by
       by_cases h92:D.c k=92
       ·exact .inr ⟨by rw [beq_iff_eq];omega,qqn (by omega)⟩
       ·exact .inl (qqn (by omega))
      by_cases hsg:sg D k=0
      ·have hf:Hid (txt D q at_=.bad):=(by show _=_;rw [HD.out,txt_bad hkn hcq hb hsg]);have e1:Hid ((if sg D k=0 then 1 else sg D k)=1):=(by show _=_;rw [if_pos hsg]);have e2:Hid (decide (sg D k ≠ 0)=false):=(by show _=_;simp [hsg]);clear hcq hb hsg;rcases he with he | ⟨he,he2⟩
       all_goals
        go_wp2_with fail
        refine (peek_c D bp A C k 0 0 _ hp.out (by omega) (by omega) (by omega)).mono ?_;rintro e w1 ⟨rfl,nq,rfl⟩;simp only [Int.toNat_zero,Nat.add_zero];go_wp2_with fail
        go_quiet (fail)
        go_wp2_with fail
        refine (sign_c D bp A C k 0 _ (hp.out.drewN _) (by omega)).mono ?_;rintro e w2 ⟨rfl,hk2⟩;rw [e1.out,e2.out];have hp2:=qqh ((hp.out.drewN _).kpNil hk2);have hk2:=qqh (Kp.nil (hkp.out.drewN _) hk2);go_wp2_with fail
        refine (fail_c D bp A C k 0 _ hp2.out).mono ?_;rintro e w3 ⟨rfl,hp3,hk3⟩;have hp3:=qqh hp3;have hk3:=qqh (Kp.trans hk2.out hk3);go_wp2_with fail
        go_ret;rw [hf.out];exact ⟨rfl,hp3.out,hk3.out⟩
      ·have hin:=sg_in D k hsg;have hle:=sg_le D k;have hf:Hid (txt D q at_=txtRun D q (k+sg D k) (acc++D.sub k (sg D k))):=(by show _=_;rw [HD.out,txt_go hkn hcq hb hsg]);have e1:Hid ((if sg D k=0 then 1 else sg D k)=sg D k):=(by show _=_;rw [if_neg hsg]);have e2:Hid (decide (sg D k ≠ 0)=true):=(by show _=_;simp [hsg]);obtain ⟨m,hm⟩:∃ m,sg D k=m:=⟨_,rfl⟩;rw [hm] at e1 e2 hf hin hle hsg;have HM:=qqh hm;have hm1:1<=m:=(by omega);obtain ⟨bd,o,hAe,hc⟩:=hp.out.byte hkn;have hC1:=hp.out.doc.1;have hC2:=hp.out.doc.2.1;have hneC:¬ C=k:=(by omega);have hc:=qqh hc;have hAs:=qqh (show bd<wr.heap.size from HA'.out ⟨bd,o,none⟩ hAe);clear hcq hb hsg hm;rcases he with he | ⟨he,he2⟩
       all_goals
        go_wp2_with fail
        refine (peek_c D bp A C k 0 0 _ hp.out (by omega) (by omega) (by omega)).mono ?_;rintro e w1 ⟨rfl,nq,rfl⟩;simp only [Int.toNat_zero,Nat.add_zero];go_wp2_with fail
        go_quiet (fail)
        go_wp2_with fail
        refine (sign_c D bp A C k 0 _ (hp.out.drewN _) (by omega)).mono ?_;rintro e w2 ⟨rfl,hk2⟩;rw [HM.out,e1.out,e2.out];have hp2:=qqh ((hp.out.drewN _).kpNil hk2);have hown2:=qqh (OwnB.kp (hown.out.drewN _) hk2 (fun _ _ x => x));have hk2:=qqh (Kp.nil (hkp.out.drewN _) hk2);have hb2:=qqh hk2.out.size;have z0:=hp2.out.c0;have z1:=hp2.out.c1;rw [hAe] at z0;go_wp2_with fail
        have v1:IntKind.i64.wrap ((k:Int)+(m:Int))=(k:Int)+(m:Int):=IntWalk.i64_in _ (by omega);have v2:((k:Int)+(m:Int)).toNat=k+m:=(by omega);have v3:∀ w',(Instr.slice 22 (.slice (some ⟨bd,o,none⟩) D.n C) (some (.int .i64 (k:Int))) (some (.int .i64 ((k:Int)+(m:Int)))) none).run Tryz.prog w'=.ok (.slice (some ⟨bd,o+k,none⟩) m (C - k)) w':=slice_lh bd o D.n C _ _ k m rfl (by omega) (by omega) (by omega)
        go_still_tail 16,(by kernel_rfl)
        clear v1 v2 v3;change wpList _ _ _ _ _ w2.drew;have hll:acc.length+(D.sub k m).length<=4294967296:=(by rw [Doc.sub_length];omega);go_wp2_with (at_builtin;refine wpList_app_bytes rfl _ _ rfl w.heap.size _ acc (D.sub k m) rfl hown2.out.drew bd (o+k) _ (by rw [Doc.sub_length];rfl) (sub_cells (w:=w2.drew) (hp2.out.bytesAt hAe) hin) hll hb2.out ?_)
        intro v' w3 hown3 hg3;have hp3:=qqh (PS.grown hp2.out.drew hown2.out.drew hg3 hbl hA);have hk3:=qqh (Kp.grownOwn hk2.out.drew hown2.out.drew hg3);have hown3:=qqh hown3;have y1:=hp3.out.c1;have y2:=hp3.out.f 1;clear hg3;go_wp2_with fail
        go_roundw
        case rel => exact ⟨k+m,0,acc++D.sub k m,by omega,by rw [qqa,Doc.sub_length];omega,by rw [qqa,Doc.sub_length];omega,.inl ⟨rfl,hf.out⟩,PS.setAt hp3.out _ (k+m) (by omega),OwnB.put hown3.out hbl _,Kp.putOnly hk3.out _⟩
        case measure => rw [hp.out.left2,(PS.setAt hp3.out _ (k+m) (by omega)).left2];omega
   ·have hf:Hid (txt D q at_=.bad):=(by show _=_;rw [HD.out,txt_stop (by omega)]);have hkn2:decide ((D.n:Int)<=(k:Int))=true:=qqt (by omega);go_wp2_with fail
    refine (peek_c D bp A C k 0 0 _ hp.out (by omega) (by omega) (by omega)).mono ?_;rintro e w1 ⟨rfl,nq,rfl⟩;simp only [Int.toNat_zero,Nat.add_zero];go_wp2_with fail
    go_quiet (fail)
    go_wp2_with fail
    refine (fail_c D bp A C k 0 _ (hp.out.drewN _)).mono ?_;rintro e w2 ⟨rfl,hp2,hk2⟩;have hown2:=qqh (OwnB.kp (hown.out.drewN _) hk2 (fun g hg hS => by have:=hown.out.lt g hg;have hS:g=bp:=hS;omega));have hp2:=qqh hp2;have hk2:=qqh (Kp.trans (hkp.out.drewN _) hk2);go_wp2_with fail
    go_roundw
    case rel =>
     refine ⟨D.n,1,acc,by omega,haccn,haccn,.inr ⟨by omega,rfl,?_,?_,?_⟩,hp2.out,hown2.out,hk2.out⟩
     all_goals (rw [hf.out];rfl)
    case measure => rw [hp.out.left2,hp2.out.left2];simp [failSt]
  ·have g2':((st:Int) == 0)=false:=qqn (by omega);go_wp2_with fail
   go_ret;subst hkn;rw [hd1,hd2,hd3];exact ⟨rfl,hp.out,hkp.out⟩
end Go.Proofs.YtpgmddjgcgpoeaaGreat
