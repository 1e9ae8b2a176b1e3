/-
  A part of the proof.
-/
import Derived.Test.YtpgmddjgcgpoeaaGreatD35
set_option linter.unusedVariables false
set_option linter.unusedSimpArgs false
set_option maxRecDepth 100000
set_option maxHeartbeats 8000000
namespace Go.Proofs.YtpgmddjgcgpoeaaGreat
open Go.RowKit
def docThen (D:Doc) (acc:List Ex):R (Option Ex)->R (List Ex) | .good o p => docRun D p (acc++o.toList) | .bad => .bad | .opn => .opn
theorem doc_ln {D:Doc} {j:Nat} {acc:List Ex} (h:j<D.n):docRun D j acc=docThen D acc (lnP D (wsEnd D j))/\∀ o p,lnP D (wsEnd D j)=.good o p->j<p/\p<=D.n:=by
 unfold lnP;cases h1:headP D (wsEnd D j) with
 | good o k1 =>
  dsimp only;cases h2:tailP D k1 with
  | good u k2 =>
   obtain ⟨h3,h4,h5⟩:=doc_go (acc:=acc) h h1 h2;exact ⟨h5,fun o' p e => by injection e with e1 e2;subst e2;exact ⟨h3,h4⟩⟩
  | bad => exact ⟨doc_tbad h h1 h2,fun o' p e => by cases e⟩
  | opn => exact ⟨doc_topn h h1 h2,fun o' p e => by cases e⟩
 | bad => exact ⟨doc_hbad h h1,fun o' p e => by cases e⟩
 | opn => exact ⟨doc_hopn h h1,fun o' p e => by cases e⟩
theorem tailP_at {D:Doc} {j:Nat} (hw:noWs D j) (h:D.c j ≠ 35):tailP D j=eolP D j:=by
 unfold tailP;rw [hw.stop];have:cmt D j=.good () j:=by unfold cmt;rw [if_neg h]
 rw [this]
theorem ln_none {D:Doc} {j:Nat} (h:¬ (j<D.n/\D.c j ≠ 35/\D.c j ≠ 10/\D.c j ≠ 13)) (h91:D.c j ≠ 91):lnP D j=lnThen none (tailP D j):=by
 unfold lnP headP;rw [if_neg h91,if_neg h]
theorem doc_fin {D:Doc} {j:Nat} {acc:List Ex} (hj:j<=D.n) (h:D.n<=wsEnd D j):∃ p,docRun D j acc=.good acc p:=by
 rcases qqg j D.n with h1 | h1
 ·have h2:=wsEnd_le D j;have h0:=D.out (wsEnd D j) h;rw [(doc_ln h1).1,ln_none (by omega) (by omega),tailP_at (noWs_end D j) (by omega)];unfold eolP;rw [if_pos h];refine ⟨wsEnd D j,?_⟩;show docRun D (wsEnd D j) (acc++[])=_;rw [List.append_nil,doc_end h]
 ·exact ⟨j,doc_end h1⟩
theorem doc_nl {D:Doc} {j:Nat} {acc:List Ex} (hj:j<=D.n) (h:nlen D (wsEnd D j) ≠ 0):docRun D j acc=docRun D (wsEnd D j+nlen D (wsEnd D j)) acc:=by
 have hc:=nlen_char h;have hin:=Doc.in_of (D:=D) (k:=wsEnd D j) (by omega);have hg:=wsEnd_ge D j;rw [(doc_ln (by omega)).1,ln_none (by omega) (by omega),tailP_at (noWs_end D j) (by omega)];unfold eolP;rw [if_neg (by omega),if_neg h];show docRun D _ (acc++[])=_;rw [List.append_nil]
theorem doc_cr {D:Doc} {j:Nat} {acc:List Ex} (h:nlen D (wsEnd D j)=0) (h13:D.c (wsEnd D j)=13):docRun D j acc=.bad:=by
 have hin:=Doc.in_of (D:=D) (k:=wsEnd D j) (by omega);have hg:=wsEnd_ge D j;rw [(doc_ln (by omega)).1,ln_none (by omega) (by omega),tailP_at (noWs_end D j) (by omega)];unfold eolP;rw [if_neg (by omega),if_pos h];rfl
theorem doc_cmt {D:Doc} {j:Nat} {acc:List Ex} (h:D.c (wsEnd D j)=35):docRun D j acc=match cmtRun D (wsEnd D j) with | .good _ k2 => docThen D acc (lnThen none (eolP D k2)) | _ => .bad:=by
 have hin:=Doc.in_of (D:=D) (k:=wsEnd D j) (by omega);have hg:=wsEnd_ge D j;rw [(doc_ln (by omega)).1,ln_none (by omega) (by omega)];unfold tailP;rw [wsEnd_idem];have hc:cmt D (wsEnd D j)=cmtRun D (wsEnd D j):=by unfold cmt;rw [if_pos h]
 rw [hc];cases hr:cmtRun D (wsEnd D j) with
 | good u k2 => rfl
 | bad => rfl
 | opn => exact absurd (hc.trans hr) (cmt_not_opn D _)
theorem under62:Tryz.prog.underlying 62=some (.slice (Tryz.prog.elem 62)):=by kernel_rfl
theorem size62 (w:World):(sizeOf (Tryz.prog.elem 62)).run Tryz.prog w=.ok 7 w:=by
 have he:Tryz.prog.elem 62=76:=by kernel_rfl
 obtain ⟨i,hi,hz0,hz1,hz2⟩:=info_parts info76z;rw [he];simp [sizeOf,typeInfo,hi,hz1]
theorem upto62 (a:Option Addr) (n c:Nat) (w:World):(Instr.slice 62 (.slice a n c) none (some (.int .i64 0)) none).run Tryz.prog w=.ok (.slice a 0 c) w:=by
 rw [run_slice_h (P:=Tryz.prog) w 62 a n c under62 .i64 0 (by omega) (by omega),size62];have h0:a.map (·.add 0)=a:=by cases a <;> rfl
 simp only [Result.andThen,sliced,Int.toNat_zero,Nat.zero_mul,h0,ite_self,Nat.sub_zero]
theorem PI.clear {D:Doc} {A:Option Addr} {C bp:Nat} {w:World} {left er:Value} {na:Option Addr} {N N' nc:Nat} {xs:List Value} {nst:Nat} (h1:PI D A C bp w left (.slice na N nc) N' xs er nst) :
  PN D A C bp (w.setCell ⟨bp,3,none⟩ (.slice na 0 nc)) left (.slice na 0 nc) [] er nst:=by
 have hob:(Value.slice na 0 nc).ownBlock=(Value.slice na N nc).ownBlock:=by cases na <;> rfl
 refine ⟨[],⟨h1.blk.putE 3 _ rfl,h1.doc.kp (S:=Only bp) ((Kp.refl _ _).putOnly _) (fun a ha e => (h1.ltA a ha).1 e),?_,by simp,fun a ha => ?_⟩,rfl⟩
 ·refine own_kp (w:=w) ?_ ((Kp.refl (Only bp) w).putOnly (i:=3) _) (fun g hg e => by have:=(h1.own.lt g (hob ▸ hg)).1;have e:g=bp:=e;omega);refine ⟨rfl,?_⟩;rcases h1.own.2 with ⟨h3,h4⟩ | ⟨g,cap,cur,h3,hb,hg,h5,h6,h7,h8⟩
  ·injection h3 with e1 e2 e3;subst e1 e3;exact .inl ⟨rfl,rfl⟩
  ·injection h3 with e1 e2 e3;subst e1 e3;exact .inr ⟨g,nc,cur,rfl,hb,hg,Nat.zero_le _,h6,h7,by simp⟩
 ·have:=h1.ltA a ha;exact ⟨this.1,by rw [hob];exact this.2.1,by simpa using this.2.2⟩
theorem PN.setLeft {D:Doc} {A:Option Addr} {C bp:Nat} {w:World} {left nd er:Value} {ns:List Nd} {nst:Nat} (h:PN D A C bp w left nd ns er nst) (v:Value):PN D A C bp (w.setCell ⟨bp,2,none⟩ v) v nd ns er nst:=by
 obtain ⟨xs,h1,h2⟩:=h;refine ⟨xs,⟨h1.blk.putE 2 _ rfl,h1.doc.kp (S:=Only bp) ((Kp.refl _ _).putOnly _) (fun a ha e => (h1.ltA a ha).1 e),own_kp h1.own ((Kp.refl (Only bp) w).putOnly (i:=2) _) (fun g hg e => by have:=(h1.own.lt g hg).1;have e:g=bp:=e;omega),h1.one,fun a ha => ?_⟩,
  NRep.step (S:=Only bp) ((Kp.refl _ _).putOnly _) (fun b hb _ _ e => by have e:b=bp:=e;omega) (fun a ha e => (h1.ltA a ha).1 e) (Fresh.refl _ _) _ _ h2⟩
 have:=h1.ltA a ha;exact ⟨this.1,this.2.1,by simpa using this.2.2⟩
def lleft (bp:Nat) (w:World):Nat:=match w.cell? ⟨bp,2,none⟩ with | some (.slice _ n _) => n | _ => 0
theorem PN.lleft {D:Doc} {A a:Option Addr} {C bp n c:Nat} {w:World} {nd er:Value} {ns:List Nd} {nst:Nat} (h:PN D A C bp w (.slice a n c) nd ns er nst):lleft bp w=n:=by
 unfold YtpgmddjgcgpoeaaGreat.lleft;rw [h.choose_spec.1.blk.cell 2 rfl]
theorem offset2_c (D:Doc) (A a:Option Addr) (C n c bp:Nat) (w:World) (h1:w.cell? ⟨bp,1,none⟩=some (.slice A D.n C)) (hC:C<=9223372036854775807) (hkc:c<=9223372036854775807) :
  Calls Tryz.prog 60 #[.pointer (some ⟨bp,0,none⟩),.slice a n c] w fun e w' => e=.returned (.int .i64 ((C:Int) - c))/\w'=w:=by
 have hs:=D.small;go_enter Tryz.func60,Tryz.ntmps60;go_wp2_with fail
 go_ret;exact ⟨rfl,rfl⟩
end Go.Proofs.YtpgmddjgcgpoeaaGreat
