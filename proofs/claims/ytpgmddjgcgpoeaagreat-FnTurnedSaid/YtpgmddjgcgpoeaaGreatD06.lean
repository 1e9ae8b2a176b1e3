/-
  A part of the proof.
-/
import Derived.Test.YtpgmddjgcgpoeaaGreatD05
import Derived.Test.YtpgmddjgcgpoeaaGreatD04
import Derived.Test.YtpgmddjgcgpoeaaGreatD01
set_option linter.unusedVariables false
set_option linter.unusedSimpArgs false
set_option maxRecDepth 100000
set_option maxHeartbeats 8000000
namespace Go.Proofs.YtpgmddjgcgpoeaaGreat
open Go.RowKit
theorem dgN_dig {D:Doc} {b k:Nat} (h:dval (D.c k)<b/\k<D.n):dgN D b k=dgN D b (k+1)+1:=by rw [dgN,if_pos h]
theorem dgN_none {D:Doc} {b k:Nat} (h:¬ (dval (D.c k)<b/\k<D.n)):dgN D b k=0:=by rw [dgN,if_neg h]
theorem sd_figs {D:Doc} {b:Nat}:∀ (m k:Nat),dgN D b k=m->sdRun D b k=sdRun D b (k+m)
 | 0,k,_ => rfl
 | m+1,k,h => by
  by_cases hd:dval (D.c k)<b/\k<D.n
  ·rw [dgN_dig hd] at h;rw [sd_dig hd.2 hd.1,sd_figs m (k+1) (by omega),show k+1+m=k+(m+1) by omega]
  ·rw [dgN_none hd] at h;omega
theorem dgN_after (D:Doc) (b:Nat):∀ (m k:Nat),dgN D b k=m->¬ (dval (D.c (k+m))<b/\k+m<D.n)
 | 0,k,h => by
  intro hd;rw [Nat.add_zero] at hd;rw [dgN_dig hd] at h;omega
 | m+1,k,h => by
  by_cases hd:dval (D.c k)<b/\k<D.n
  ·rw [dgN_dig hd] at h;have:=dgN_after D b m (k+1) (by omega);rw [show k+1+m=k+(m+1) by omega] at this;exact this
  ·rw [dgN_none hd] at h;omega
theorem sd_law (D:Doc) (b:Nat) (hb:b<=16):∀ (m k:Nat),D.n - k=m->dval (D.c k)<b->sdRun D b k=if grp D b k=0 then .bad else .good () (k+grp D b k):=by
 intro m
 induction m using Nat.strongRecOn with
 | _ m ih =>
  intro k hm hd;have hk:k<D.n:=Doc.in_of (fun h => by rw [h,dval_0] at hd;omega);have h1:dgN D b k ≠ 0:=by rw [dgN_dig ⟨hd,hk⟩];omega
  have h2:=dgN_after D b _ k rfl;rw [sd_figs _ k rfl,grp,if_neg h1];obtain ⟨t,ht⟩:∃ t,dgN D b k=t:=⟨_,rfl⟩;rw [ht] at h1 h2 ⊢;have h95d:dval 95=99:=rfl;by_cases h95:D.c (k+t)=95
  ·have hin:=Doc.in_of (D:=D) (k:=k+t) (by omega);rw [dif_pos h95];by_cases hd2:dval (D.c (k+t+1))<b
   ·have:=ih (D.n - (k+t+1)) (by omega) (k+t+1) rfl hd2;rw [sd_und hin (by rw [h95,h95d];omega) h95 hd2,show k+t+2=(k+t+1)+1 by omega,<- sd_dig (Doc.in_of (fun h => by rw [h,dval_0] at hd2;omega)) hd2,this];by_cases hg:grp D b (k+t+1)=0
    ·rw [if_pos hg,if_pos hg,if_pos rfl]
    ·rw [if_neg hg,if_neg hg,if_neg (by omega),show k+t+1+grp D b (k+t+1)=k+(t+1+grp D b (k+t+1)) by omega]
   ·rw [sd_bad hin (by rw [h95,h95d];omega) h95 hd2,if_pos];have:grp D b (k+t+1)=0:=(by rw [grp,if_pos (dgN_none (fun h => hd2 h.1))]);rw [if_pos this]
  ·rw [dif_neg h95,if_neg h1];rcases qqg (k+t) D.n with hl | hl
   ·rw [sd_stop hl (fun h => h2 ⟨h,hl⟩) h95]
   ·rw [sd_end hl]
def letB (x:Nat):Prop:=97<=x/\x<=122\/65<=x/\x<=90
instance (x:Nat):Decidable (letB x):=by unfold letB;infer_instance
def kmap (K:Nat):Nat:=if K=0 then 8 else if K=1 then 11 else if K=2 then 10 else if K=3 then 9 else if K=4 then 15 else if K=5 then 14 else if K=6 then 12 else if K=7 then 13 else if K=8 then 6 else 7
def sdThen (r:R Unit) (f:Nat->R Nat):R Nat:=match r with | .good _ q => f q | _ => .bad
theorem sdThen_good (q:Nat) (f:Nat->R Nat):sdThen (.good () q) f=f q:=rfl
theorem sdThen_bad (f:Nat->R Nat):sdThen .bad f=.bad:=rfl
def scEnd (D:Doc) (q K:Nat):R Nat:=if letB (D.c q) then .bad else .good K q
def scExp (D:Doc) (j K:Nat):R Nat :=
 if D.c j=101\/D.c j=69 then
  (if dval (D.c (j+expS D j))<10 then sdThen (sdRun D 10 (j+expS D j+1)) (fun q => scEnd D q 10) else .bad)
 else scEnd D j K
def scFrac (D:Doc) (j:Nat):R Nat :=
 if D.c j=46 then (if dval (D.c (j+1))<10 then sdThen (sdRun D 10 (j+1+1)) (fun q => scExp D q 10) else .bad)
 else scExp D j 11
def scTen (D:Doc) (i:Nat):R Nat :=
 sdThen (sdRun D 10 (i+1)) (fun j => if D.c i=48/\i+1<j then .bad else scFrac D j)
def scBase (D:Doc) (k b:Nat):R Nat:=if dval (D.c (k+2))<b then sdThen (sdRun D b (k+2+1)) (fun p => .good 11 p) else .bad
def radB (x:Nat):Nat:=if x=120 then 16 else if x=111 then 8 else if x=98 then 2 else 0
theorem radB_nz {x:Nat} (h:radB x ≠ 0):x=120\/x=111\/x=98:=by
 unfold radB at h;by_cases h1:x=120
 ·exact .inl h1
 by_cases h2:x=111
 ·exact .inr (.inl h2)
 by_cases h3:x=98
 ·exact .inr (.inr h3)
 ·rw [if_neg h1,if_neg h2,if_neg h3] at h;exact absurd rfl h
def scN (D:Doc) (k:Nat):R Nat :=
 if D.n<=k+sgnN D k then .bad
 else if D.c (k+sgnN D k)=105 then (if hasB D (k+sgnN D k) [105,110,102]=true then .good 10 (k+sgnN D k+3) else .bad)
 else if D.c (k+sgnN D k)=110 then (if hasB D (k+sgnN D k) [110,97,110]=true then .good 10 (k+sgnN D k+3) else .bad)
 else if ¬ dval (D.c (k+sgnN D k))<10 then .bad
 else if D.c (k+sgnN D k)=48/\radB (D.c (k+sgnN D k+1)) ≠ 0 then (if sgnN D k ≠ 0 then .bad else scBase D k (radB (D.c (k+1))))
 else scTen D (k+sgnN D k)
def NumL (D:Doc) (k:Nat) (r:R (Nat × List UInt8)) (s:R Nat):Prop :=
 match r with
 | .good x p => x.2=D.sub k (p - k)/\k<p/\(s=.good (kmap x.1) p\/(s=.bad/\letB (D.c p)))
 | .bad => s=.bad
 | .opn => True
theorem scEnd_law (D:Doc) (k q K:Nat) (h:k<q):NumL D k (.good (K,D.sub k (q - k)) q) (scEnd D q (kmap K)):=by
 refine ⟨rfl,h,?_⟩;unfold scEnd;by_cases hl:letB (D.c q)
 ·rw [if_pos hl];exact .inr ⟨rfl,hl⟩
 ·rw [if_neg hl];exact .inl rfl
theorem sd_good {D:Doc} {b k:Nat} (hb:b<=16) (h:dval (D.c k)<b) (hg:grp D b k ≠ 0):sdRun D b (k+1)=.good () (k+grp D b k):=by
 rw [<- sd_dig (Doc.in_of (fun e => by rw [e,dval_0] at h;omega)) h,sd_law D b hb _ k rfl h,if_neg hg]
theorem sd_wrong {D:Doc} {b k:Nat} (hb:b<=16) (h:dval (D.c k)<b) (hg:grp D b k=0):sdRun D b (k+1)=.bad:=by
 rw [<- sd_dig (Doc.in_of (fun e => by rw [e,dval_0] at h;omega)) h,sd_law D b hb _ k rfl h,if_pos hg]
theorem grp_fig {D:Doc} {b k:Nat} (hg:grp D b k ≠ 0):dval (D.c k)<b:=by
 rcases qqg (dval (D.c k)) b with h | h
 ·exact h
 ·exact absurd (by rw [grp,if_pos (dgN_none (fun e => by omega))]) hg
theorem expN_law (D:Doc) (k n K:Nat) (hn:0<n):NumL D k (expN D k n K) (scExp D (k+n) (kmap K)):=by
 unfold expN scExp;by_cases he:D.c (k+n)=101\/D.c (k+n)=69
 ·rw [if_pos he,if_pos he];by_cases hg:grp D 10 (k+n+expS D (k+n))=0
  ·rw [if_pos hg];show _=_;by_cases hd:dval (D.c (k+n+expS D (k+n)))<10
   ·rw [if_pos hd,sd_wrong (by omega) hd hg,sdThen_bad]
   ·rw [if_neg hd]
  ·have hd:=grp_fig hg;rw [if_neg hg,if_pos hd,sd_good (by omega) hd hg,sdThen_good];have:=scEnd_law D k (k+(n+expS D (k+n)+grp D 10 (k+n+expS D (k+n)))) 2 (by omega);rw [Nat.add_sub_cancel_left] at this;show NumL D k _ (scEnd D _ 10);rw [show k+n+expS D (k+n)+grp D 10 (k+n+expS D (k+n))=k+(n+expS D (k+n)+grp D 10 (k+n+expS D (k+n))) by omega];exact this
 ·rw [if_neg he,if_neg he];have:=scEnd_law D k (k+n) K (by omega);rw [Nat.add_sub_cancel_left] at this;exact this
theorem fracN_law (D:Doc) (k n:Nat) (hn:0<n):NumL D k (fracN D k n) (scFrac D (k+n)):=by
 unfold fracN scFrac;by_cases he:D.c (k+n)=46
 ·rw [if_pos he,if_pos he];by_cases hg:grp D 10 (k+n+1)=0
  ·rw [if_pos hg];show _=_;by_cases hd:dval (D.c (k+n+1))<10
   ·rw [if_pos hd,sd_wrong (by omega) hd hg,sdThen_bad]
   ·rw [if_neg hd]
  ·have hd:=grp_fig hg;rw [if_neg hg,if_pos hd,sd_good (by omega) hd hg,sdThen_good];have:=expN_law D k (n+1+grp D 10 (k+n+1)) 2 (by omega);show NumL D k _ (scExp D _ 10);rw [show k+n+1+grp D 10 (k+n+1)=k+(n+1+grp D 10 (k+n+1)) by omega];exact this
 ·rw [if_neg he,if_neg he];exact expN_law D k n 1 hn
theorem tenN_law (D:Doc) (k n:Nat) (hd:dval (D.c (k+n))<10):NumL D k (tenN D k n) (scTen D (k+n)):=by
 unfold tenN scTen;by_cases hg:grp D 10 (k+n)=0
 ·rw [if_pos (.inl hg),sd_wrong (by omega) hd hg,sdThen_bad]
  rfl
 ·rw [sd_good (by omega) hd hg,sdThen_good];by_cases h0:D.c (k+n)=48/\1<grp D 10 (k+n)
  ·rw [if_pos (.inr h0),if_pos (by omega)];rfl
  ·rw [if_neg (by omega),if_neg (by omega),Nat.add_assoc];exact fracN_law D k _ (by omega)
theorem baseN_law (D:Doc) (k b:Nat) (hb:b<=16):NumL D k (baseN D k b) (scBase D k b):=by
 unfold baseN scBase;by_cases hg:grp D b (k+2)=0
 ·rw [if_pos hg];show _=_;by_cases hd:dval (D.c (k+2))<b
  ·rw [if_pos hd,sd_wrong hb hd hg,sdThen_bad]
  ·rw [if_neg hd]
 ·have hd:=grp_fig hg;rw [if_neg hg,if_pos hd,sd_good hb hd hg,sdThen_good];refine ⟨by rw [Nat.add_sub_cancel_left],by omega,.inl ?_⟩;show R.good _ _=R.good _ _;rw [Nat.add_assoc];rfl
theorem has_2 (D:Doc) (k x y:Nat) (hx:0<x/\x<256) (hy:0<y/\y<256):hasB D k [UInt8.ofNat x,UInt8.ofNat y]=decide (D.c k=x/\D.c (k+1)=y):=by
 have e1:(UInt8.ofNat x).toNat=x:=by simp [UInt8.toNat_ofNat'];omega
 have e2:(UInt8.ofNat y).toNat=y:=by simp [UInt8.toNat_ofNat'];omega
 rcases qqg D.n k with hk | hk
 ·rw [hasB_past D k _ (by simp) (by omega),D.out k (by omega)];symm;rw [decide_eq_false_iff_not];omega
 ·rw [hasB_all D k _ (by intro z hz;simp at hz;rcases hz with rfl | rfl <;> (intro e;have:=congrArg UInt8.toNat e;simp at this;omega)) hk];simp [hasAll,Bool.decide_and,e1,e2]
  rfl
theorem has_3 (D:Doc) (k x y z:Nat) (hx:0<x/\x<256) (hy:0<y/\y<256) (hz:0<z/\z<256):hasB D k [UInt8.ofNat x,UInt8.ofNat y,UInt8.ofNat z]=decide (D.c k=x/\D.c (k+1)=y/\D.c (k+2)=z):=by
 have e1:(UInt8.ofNat x).toNat=x:=by simp [UInt8.toNat_ofNat'];omega
 have e2:(UInt8.ofNat y).toNat=y:=by simp [UInt8.toNat_ofNat'];omega
 have e3:(UInt8.ofNat z).toNat=z:=by simp [UInt8.toNat_ofNat'];omega
 rcases qqg D.n k with hk | hk
 ·rw [hasB_past D k _ (by simp) (by omega),D.out k (by omega)];symm;rw [decide_eq_false_iff_not];omega
 ·rw [hasB_all D k _ (by intro z hz;simp at hz;rcases hz with rfl | rfl | rfl <;> (intro e;have:=congrArg UInt8.toNat e;simp at this;omega)) hk];simp [hasAll,Bool.decide_and,e1,e2,e3]
  rfl
theorem infN_law (D:Doc) (k:Nat) (hr:¬ (D.c (k+sgnN D k)=48/\radB (D.c (k+sgnN D k+1)) ≠ 0) ):NumL D k (infN D k (sgnN D k)) (scN D k):=by
 unfold infN scN;obtain ⟨s,hS⟩:∃ s,sgnN D k=s:=⟨_,rfl⟩;rw [hS] at hr ⊢;have hi:hasB D (k+s) [105,110,102]=decide (D.c (k+s)=105/\D.c (k+s+1)=110/\D.c (k+s+2)=102):=has_3 D (k+s) 105 110 102 (by omega) (by omega) (by omega);have hn:hasB D (k+s) [110,97,110]=decide (D.c (k+s)=110/\D.c (k+s+1)=97/\D.c (k+s+2)=110):=has_3 D (k+s) 110 97 110 (by omega) (by omega) (by omega);have hten:¬ dval (D.c (k+s))<10->tenN D k s=.bad:=fun h => by
  unfold tenN;rw [if_pos (.inl (by rw [grp,if_pos (dgN_none (fun e => h e.1))]))]
 have d105:dval 105=99:=rfl;have d110:dval 110=99:=rfl;by_cases h1:D.n<=k+s
 ·have h0:=D.out (k+s) h1;have hnb:¬ (hasB D (k+s) [105,110,102]=true\/hasB D (k+s) [110,97,110]=true):=by rw [hi,hn,decide_eq_true_iff,decide_eq_true_iff];omega
  rw [if_pos h1,if_neg hnb,hten (by rw [h0,dval_0];omega)];rfl
 rw [if_neg h1];by_cases h2:D.c (k+s)=105
 ·rw [if_pos h2];have hn':hasB D (k+s) [110,97,110]=false:=by rw [hn,decide_eq_false_iff_not];omega
  by_cases h3:hasB D (k+s) [105,110,102]=true
  ·rw [if_pos (.inl h3),if_pos h3];exact ⟨by rw [Nat.add_sub_cancel_left],by omega,.inl (by rw [Nat.add_assoc];rfl)⟩
  ·rw [if_neg (by rw [hn'];simp [h3]),if_neg h3,hten (by rw [h2,d105];omega)];rfl
 rw [if_neg h2];have hi':hasB D (k+s) [105,110,102]=false:=by rw [hi,decide_eq_false_iff_not];omega
 by_cases h4:D.c (k+s)=110
 ·rw [if_pos h4];by_cases h3:hasB D (k+s) [110,97,110]=true
  ·rw [if_pos (.inr h3),if_pos h3];exact ⟨by rw [Nat.add_sub_cancel_left],by omega,.inl (by rw [Nat.add_assoc];rfl)⟩
  ·rw [if_neg (by rw [hi'];simp [h3]),if_neg h3,hten (by rw [h4,d110];omega)];rfl
 rw [if_neg h4];have hn':hasB D (k+s) [110,97,110]=false:=by rw [hn,decide_eq_false_iff_not];omega
 rw [if_neg (by rw [hi',hn'];simp)];by_cases h5:dval (D.c (k+s))<10
 ·rw [if_neg (by omega),if_neg hr];exact tenN_law D k s h5
 ·rw [if_pos h5,hten h5];rfl
theorem numP_law (D:Doc) (k:Nat) (h1:¬ (0<=twoRun D k 0 4/\D.c (k+4)=45)) (h2:¬ (0<=twoRun D k 0 2/\D.c (k+2)=58)):NumL D k (numP D k) (scN D k):=by
 unfold numP;rw [if_neg h1,if_neg h2];have ex:hasB D k [48,120]=decide (D.c k=48/\D.c (k+1)=120):=has_2 D k 48 120 (by omega) (by omega);have eo:hasB D k [48,111]=decide (D.c k=48/\D.c (k+1)=111):=has_2 D k 48 111 (by omega) (by omega);have eb:hasB D k [48,98]=decide (D.c k=48/\D.c (k+1)=98):=has_2 D k 48 98 (by omega) (by omega);have d48:dval 48=0:=rfl;have hbase:∀ b,D.c k=48->radB (D.c (k+1))=b->b ≠ 0->scN D k=scBase D k b:=by
  intro b h48 hr hb;have hin:=Doc.in_of (D:=D) (k:=k) (by omega);have hs0:sgnN D k=0:=by unfold sgnN;rw [if_neg (by omega)]
  unfold scN;rw [hs0,Nat.add_zero,if_neg (by omega),if_neg (by omega),if_neg (by omega),if_neg (by rw [h48,d48];omega),if_pos ⟨h48,by omega⟩,if_neg (by omega),hr]
 by_cases hx:D.c k=48/\D.c (k+1)=120
 ·rw [ex,qqt hx,if_pos rfl,hbase 16 hx.1 (by rw [hx.2];rfl) (by omega)];exact baseN_law D k 16 (by omega)
 rw [ex,qqf hx,if_neg (by simp)];by_cases ho:D.c k=48/\D.c (k+1)=111
 ·rw [eo,qqt ho,if_pos rfl,hbase 8 ho.1 (by rw [ho.2];rfl) (by omega)];exact baseN_law D k 8 (by omega)
 rw [eo,qqf ho,if_neg (by simp)];by_cases hb:D.c k=48/\D.c (k+1)=98
 ·rw [eb,qqt hb,if_pos rfl,hbase 2 hb.1 (by rw [hb.2];rfl) (by omega)];exact baseN_law D k 2 (by omega)
 rw [eb,qqf hb,if_neg (by simp)];by_cases hr:D.c (k+sgnN D k)=48/\radB (D.c (k+sgnN D k+1)) ≠ 0
 ·
  have hs1:sgnN D k ≠ 0:=by
   intro e;rw [e,Nat.add_zero] at hr;have:=radB_nz hr.2;omega
  have hs2:sgnN D k=1:=by unfold sgnN at hs1 ⊢;split <;> simp_all
  have hsc:scN D k=.bad:=by
   have hin:=Doc.in_of (D:=D) (k:=k+sgnN D k) (by omega);unfold scN;rw [if_neg (by omega),if_neg (by omega),if_neg (by omega),if_neg (by rw [hr.1,d48];omega),if_pos hr,if_pos hs1]
  rw [hs2] at hr ⊢;have hlet:letB (D.c (k+1+1)):=by
   have:=radB_nz hr.2;unfold letB;omega
  have hin:=Doc.in_of (D:=D) (k:=k+1) (by omega);have hdg:dgN D 10 (k+1)=1:=by
   rw [dgN_dig ⟨by rw [hr.1,d48];omega,hin⟩,dgN_none];intro h;have h:=h.1;have:=hlet;unfold letB at this;unfold dval at h
   (repeat' split at h) <;> omega
  have hg:grp D 10 (k+1)=1:=by
   rw [grp,hdg,if_neg (by omega),dif_neg];have:=hlet;unfold letB at this;omega
  have hi:hasB D (k+1) [105,110,102]=false:=by rw [show ([105,110,102]:List UInt8)=[UInt8.ofNat 105,UInt8.ofNat 110,UInt8.ofNat 102] from rfl,has_3 D (k+1) 105 110 102 (by omega) (by omega) (by omega),decide_eq_false_iff_not];omega
  have hn:hasB D (k+1) [110,97,110]=false:=by rw [show ([110,97,110]:List UInt8)=[UInt8.ofNat 110,UInt8.ofNat 97,UInt8.ofNat 110] from rfl,has_3 D (k+1) 110 97 110 (by omega) (by omega) (by omega),decide_eq_false_iff_not];omega
  unfold infN;rw [if_neg (by rw [hi,hn];simp)];unfold tenN;rw [hg,if_neg (by omega)];unfold fracN;have:=radB_nz hr.2;rw [if_neg (by rw [show k+(1+1)=k+1+1 by omega];omega)];unfold expN;rw [if_neg (by rw [show k+(1+1)=k+1+1 by omega];omega),hsc];exact ⟨by rw [Nat.add_sub_cancel_left],by omega,.inr ⟨rfl,by rw [show k+(1+1)=k+1+1 by omega];exact hlet⟩⟩
 ·exact infN_law D k hr
def dtS (D:Doc) (k:Nat):Prop:=(dval (D.c (k+1))<10/\D.c (k+2)=58)\/(dval (D.c (k+1))<10/\dval (D.c (k+2))<10/\dval (D.c (k+3))<10/\D.c (k+4)=45)
instance (D:Doc) (k:Nat):Decidable (dtS D k):=by unfold dtS;infer_instance
theorem dts_c (D:Doc) (A a:Option Addr) (C k n c:Nat) (w:World) (hd:DocAt D A C w) (hv:VW D A C k a n c) (hk:k<D.n) :
  Calls Tryz.prog 102 #[.slice a n c] w fun e w' => e=.returned (.bool (decide (dtS D k)))/\w'=w:=by
 have hs:=D.small;have hln:=qql hv.len;have hln':=qql hv.len.symm;obtain ⟨bd,q,rfl,hb⟩:=hv.bytes hd hk;have HB:=qqh hb;have HV:=qqh hv;obtain ⟨r,hr⟩:∃ r,decide (dtS D k)=r:=⟨_,rfl⟩;rw [hr];have HR:=qqh hr;clear hb hv hr hd;go_enter Tryz.func102,Tryz.ntmps102;rcases qqg n 3 with h3 | h3
 ·obtain rfl:false=r:=by rw [<- HR.out];exact (qqf (by unfold dtS;rw [D.out (k+2) (by omega),D.out (k+4) (by omega)];omega)).symm
  have e3:decide (3<=(n:Int))=false:=qqf (by omega);have e5:decide (5<=(n:Int))=false:=qqf (by omega);go_wp2_with fail
  go_ret;exact ⟨rfl,rfl⟩
 have e3:decide (3<=(n:Int))=true:=qqt (by omega);have b1:=HB.out 1 (by omega);have b2:=HB.out 2 (by omega);by_cases d1:dval (D.c (k+1))<10
 ·have D1:=qqh (qqt d1);by_cases c2:D.c (k+2)=58
  ·obtain rfl:true=r:=(by rw [<- HR.out];exact (qqt (.inl ⟨d1,c2⟩)).symm);have e58:((D.c (k+2):Int) == 58)=true:=(by rw [beq_iff_eq];omega);clear d1 c2;go_wp2_with fail
   refine (dig111_c (D.c (k+1)) _).mono ?_;rintro e w1 ⟨rfl,rfl⟩;rw [D1.out];go_wp2_with fail
   go_ret;exact ⟨rfl,rfl⟩
  have e58:((D.c (k+2):Int) == 58)=false:=qqn (by omega);rcases qqg n 5 with h5 | h5
  ·obtain rfl:false=r:=(by rw [<- HR.out];exact (qqf (by unfold dtS;rw [D.out (k+4) (by omega)];omega)).symm);have e5:decide (5<=(n:Int))=false:=qqf (by omega);clear d1 c2;go_wp2_with fail
   refine (dig111_c (D.c (k+1)) _).mono ?_;rintro e w1 ⟨rfl,rfl⟩;rw [D1.out];go_wp2_with fail
   go_ret;exact ⟨rfl,rfl⟩
  have e5:decide (5<=(n:Int))=true:=qqt (by omega);have b3:=HB.out 3 (by omega);have b4:=HB.out 4 (by omega);by_cases d2:dval (D.c (k+2))<10
  ·have D2:=qqh (qqt d2);by_cases d3:dval (D.c (k+3))<10
   ·have D3:=qqh (qqt d3);by_cases c4:D.c (k+4)=45
    ·obtain rfl:true=r:=(by rw [<- HR.out];exact (qqt (.inr ⟨d1,d2,d3,c4⟩)).symm);have e45:((D.c (k+4):Int) == 45)=true:=(by rw [beq_iff_eq];omega);clear d1 d2 d3 c2 c4;go_wp2_with fail
     refine (dig111_c (D.c (k+1)) _).mono ?_;rintro e w1 ⟨rfl,rfl⟩;rw [D1.out];go_wp2_with fail
     refine (dig111_c (D.c (k+1)) _).mono ?_;rintro e w1 ⟨rfl,rfl⟩;rw [D1.out];go_wp2_with fail
     refine (dig111_c (D.c (k+2)) _).mono ?_;rintro e w1 ⟨rfl,rfl⟩;rw [D2.out];go_wp2_with fail
     refine (dig111_c (D.c (k+3)) _).mono ?_;rintro e w1 ⟨rfl,rfl⟩;rw [D3.out];go_wp2_with fail
     go_ret;exact ⟨rfl,rfl⟩
    ·obtain rfl:false=r:=(by rw [<- HR.out];exact (qqf (by unfold dtS;omega)).symm);have e45:((D.c (k+4):Int) == 45)=false:=qqn (by omega);clear d1 d2 d3 c2 c4;go_wp2_with fail
     refine (dig111_c (D.c (k+1)) _).mono ?_;rintro e w1 ⟨rfl,rfl⟩;rw [D1.out];go_wp2_with fail
     refine (dig111_c (D.c (k+1)) _).mono ?_;rintro e w1 ⟨rfl,rfl⟩;rw [D1.out];go_wp2_with fail
     refine (dig111_c (D.c (k+2)) _).mono ?_;rintro e w1 ⟨rfl,rfl⟩;rw [D2.out];go_wp2_with fail
     refine (dig111_c (D.c (k+3)) _).mono ?_;rintro e w1 ⟨rfl,rfl⟩;rw [D3.out];go_wp2_with fail
     go_ret;exact ⟨rfl,rfl⟩
   ·have D3:=qqh (qqf d3);obtain rfl:false=r:=(by rw [<- HR.out];exact (qqf (by unfold dtS;omega)).symm);clear d1 d2 d3 c2;go_wp2_with fail
    refine (dig111_c (D.c (k+1)) _).mono ?_;rintro e w1 ⟨rfl,rfl⟩;rw [D1.out];go_wp2_with fail
    refine (dig111_c (D.c (k+1)) _).mono ?_;rintro e w1 ⟨rfl,rfl⟩;rw [D1.out];go_wp2_with fail
    refine (dig111_c (D.c (k+2)) _).mono ?_;rintro e w1 ⟨rfl,rfl⟩;rw [D2.out];go_wp2_with fail
    refine (dig111_c (D.c (k+3)) _).mono ?_;rintro e w1 ⟨rfl,rfl⟩;rw [D3.out];go_wp2_with fail
    go_ret;exact ⟨rfl,rfl⟩
  ·have D2:=qqh (qqf d2);obtain rfl:false=r:=(by rw [<- HR.out];exact (qqf (by unfold dtS;omega)).symm);clear d1 d2 c2;go_wp2_with fail
   refine (dig111_c (D.c (k+1)) _).mono ?_;rintro e w1 ⟨rfl,rfl⟩;rw [D1.out];go_wp2_with fail
   refine (dig111_c (D.c (k+1)) _).mono ?_;rintro e w1 ⟨rfl,rfl⟩;rw [D1.out];go_wp2_with fail
   refine (dig111_c (D.c (k+2)) _).mono ?_;rintro e w1 ⟨rfl,rfl⟩;rw [D2.out];go_wp2_with fail
   go_ret;exact ⟨rfl,rfl⟩
 ·have D1:=qqh (qqf d1);obtain rfl:false=r:=by rw [<- HR.out];exact (qqf (by unfold dtS;omega)).symm
  clear d1;rcases qqg n 5 with h5 | h5
  ·have e5:decide (5<=(n:Int))=false:=qqf (by omega);go_wp2_with fail
   refine (dig111_c (D.c (k+1)) _).mono ?_;rintro e w1 ⟨rfl,rfl⟩;rw [D1.out];go_wp2_with fail
   go_ret;exact ⟨rfl,rfl⟩
  ·have e5:decide (5<=(n:Int))=true:=qqt (by omega);go_wp2_with fail
   refine (dig111_c (D.c (k+1)) _).mono ?_;rintro e w1 ⟨rfl,rfl⟩;rw [D1.out];go_wp2_with fail
   refine (dig111_c (D.c (k+1)) _).mono ?_;rintro e w1 ⟨rfl,rfl⟩;rw [D1.out];go_wp2_with fail
   go_ret;exact ⟨rfl,rfl⟩
def dtC (x:Nat):Prop:=48<=x/\x<=57\/x=58\/x=45\/x=43\/x=46\/x=90\/x=122
instance (x:Nat):Decidable (dtC x):=by unfold dtC;infer_instance
def dtT (D:Doc) (i:Nat):Prop:=D.c i=84\/D.c i=116\/(D.c i=32/\48<=D.c (i+1)/\D.c (i+1)<=57)
instance (D:Doc) (i:Nat):Decidable (dtT D i):=by unfold dtT;infer_instance
def dtRun (D:Doc) (i:Nat) (dl:Option Nat):Nat × Option Nat :=
 if D.n<=i then (i,dl) else if dtC (D.c i) then dtRun D (i+1) dl else if dtT D i then dtRun D (i+1) (some (dl.getD i)) else (i,dl)
termination_by D.n - i
theorem dt_end {D:Doc} {i:Nat} {dl:Option Nat} (h:D.n<=i):dtRun D i dl=(i,dl):=by rw [dtRun,if_pos h]
theorem dt_c {D:Doc} {i:Nat} {dl:Option Nat} (h:i<D.n) (h1:dtC (D.c i)):dtRun D i dl=dtRun D (i+1) dl:=by rw [dtRun,if_neg (by omega),if_pos h1]
theorem dt_t {D:Doc} {i:Nat} {dl:Option Nat} (h:i<D.n) (h1:¬ dtC (D.c i)) (h2:dtT D i):dtRun D i dl=dtRun D (i+1) (some (dl.getD i)):=by rw [dtRun,if_neg (by omega),if_neg h1,if_pos h2]
theorem dt_stop {D:Doc} {i:Nat} {dl:Option Nat} (h1:¬ dtC (D.c i)) (h2:¬ dtT D i):dtRun D i dl=(i,dl):=by
 rcases qqg i D.n with h | h
 ·rw [dtRun,if_neg (by omega),if_neg h1,if_neg h2]
 ·exact dt_end h
def dtK (D:Doc) (k:Nat) (x:Nat × Option Nat):Nat :=
 if D.c (k+2)=58 then 13 else match x.2 with | none => 12 | some d => if zoneIn D (d+1) (x.1 - (d+1))=true then 15 else 14
theorem dtC_nz {x:Nat} (h:dtC x):x ≠ 0:=by unfold dtC at h;omega
theorem dt_plain {D:Doc} {dl:Option Nat}:∀ (m k:Nat),(∀ i,i<m->dtC (D.c (k+i)))->dtRun D k dl=dtRun D (k+m) dl
 | 0,_,_ => rfl
 | m+1,k,h => by
  have h0:dtC (D.c k):=h 0 (by omega);rw [dt_c (Doc.in_of (dtC_nz h0)) h0,dt_plain m (k+1) (fun i hi => by rw [show k+1+i=k+(i+1) by omega];exact h (i+1) (by omega)),show k+1+m=k+(m+1) by omega]
theorem two_fig (D:Doc):∀ (m k v:Nat),0<=twoRun D k v m->∀ i,i<m->48<=D.c (k+i)/\D.c (k+i)<=57
 | 0,_,_,_,_,h => absurd h (by omega)
 | m+1,k,v,h,i,hi => by
  rw [twoRun] at h;split at h
  ·rename_i hd;cases i with
   | zero => exact hd
   | succ i => have:=two_fig D m (k+1) _ h i (by omega);rw [show k+1+i=k+(i+1) by omega] at this;exact this
  ·omega
theorem dg_fig (D:Doc):∀ (m k:Nat),dgN D 10 k=m->∀ i,i<m->48<=D.c (k+i)/\D.c (k+i)<=57
 | 0,_,_,_,h => absurd h (by omega)
 | m+1,k,h,i,hi => by
  by_cases hd:dval (D.c k)<10/\k<D.n
  ·rw [dgN_dig hd] at h;cases i with
   | zero =>
    have hd:=hd.1;unfold dval at hd
    (repeat' split at hd) <;> first | (rename_i h1;exact h1) | omega
   | succ i => have:=dg_fig D m (k+1) (by omega) i (by omega);rw [show k+1+i=k+(i+1) by omega] at this;exact this
  ·rw [dgN_none hd] at h;omega
theorem clk_plain (D:Doc) (k:Nat) (h:clkN D k ≠ 0):∀ i,i<clkN D k->(48<=D.c (k+i)/\D.c (k+i)<=57)\/D.c (k+i)=58\/D.c (k+i)=46:=by
 unfold clkN at h ⊢;by_cases h1:twoRun D k 0 2<0
 ·rw [if_pos h1] at h;exact absurd rfl h
 rw [if_neg h1] at h ⊢;by_cases h2:D.c (k+2) ≠ 58
 ·rw [if_pos h2] at h;exact absurd rfl h
 rw [if_neg h2] at h ⊢;by_cases h3:twoRun D (k+3) 0 2<0
 ·rw [if_pos h3] at h;exact absurd rfl h
 rw [if_neg h3] at h ⊢;by_cases h4:D.c (k+5) ≠ 58
 ·rw [if_pos h4] at h;exact absurd rfl h
 rw [if_neg h4] at h ⊢;by_cases h5:twoRun D (k+6) 0 2<0
 ·rw [if_pos h5] at h;exact absurd rfl h
 rw [if_neg h5] at h ⊢;have f1:=two_fig D 2 k 0 (by omega);have f2:=two_fig D 2 (k+3) 0 (by omega);have f3:=two_fig D 2 (k+6) 0 (by omega);have p8:∀ i,i<8->(48<=D.c (k+i)/\D.c (k+i)<=57)\/D.c (k+i)=58\/D.c (k+i)=46:=by
  intro i hi;rcases qqg i 2 with a | a
  ·exact .inl (f1 i a)
  rcases qqg i 3 with b | b
  ·obtain rfl:i=2:=(by omega);exact .inr (.inl (by omega))
  rcases qqg i 5 with c | c
  ·have:=f2 (i - 3) (by omega);rw [show k+3+(i - 3)=k+i by omega] at this;exact .inl this
  rcases qqg i 6 with d | d
  ·obtain rfl:i=5:=(by omega);exact .inr (.inl (by omega))
  ·have:=f3 (i - 6) (by omega);rw [show k+6+(i - 6)=k+i by omega] at this;exact .inl this
 by_cases h8:D.c (k+8)=46
 ·rw [if_pos h8] at h ⊢;by_cases h9:dgN D 10 (k+9)=0
  ·rw [if_pos h9] at h;exact absurd rfl h
  ·rw [if_neg h9];intro i hi;rcases qqg i 8 with a | a
   ·exact p8 i a
   rcases qqg i 9 with b | b
   ·obtain rfl:i=8:=(by omega);exact .inr (.inr h8)
   ·have:=dg_fig D _ (k+9) rfl (i - 9) (by omega);rw [show k+9+(i - 9)=k+i by omega] at this;exact .inl this
 ·rw [if_neg h8];exact p8
theorem zone_no (D:Doc):∀ (m k:Nat),(∀ i,i<m->(48<=D.c (k+i)/\D.c (k+i)<=57)\/D.c (k+i)=58\/D.c (k+i)=46)->zoneIn D k m=false
 | 0,_,_ => rfl
 | m+1,k,h => by
  have h0:=h 0 (by omega);rw [Nat.add_zero] at h0;rw [zoneIn,zone_no D m (k+1) (fun i hi => by rw [show k+1+i=k+(i+1) by omega];exact h (i+1) (by omega)),qqf (by omega)];rfl
theorem zone_yes (D:Doc):∀ (m k i:Nat),i<m->(D.c (k+i)=90\/D.c (k+i)=122\/D.c (k+i)=43\/D.c (k+i)=45)->zoneIn D k m=true
 | 0,_,_,h,_ => absurd h (by omega)
 | m+1,k,0,_,h => by rw [Nat.add_zero] at h;rw [zoneIn,qqt h];rfl
 | m+1,k,i+1,hi,h => by rw [zoneIn,zone_yes D m (k+1) i (by omega) (by rw [show k+1+i=k+(i+1) by omega];exact h),Bool.or_true]
def DatL (D:Doc) (k:Nat) (r:R (Nat × List UInt8)):Prop :=
 match r with
 | .good x p => x.2=D.sub k (p - k)/\k<p/\(dtRun D k none).1=p/\dtK D k (dtRun D k none)=kmap x.1
 | .bad => False
 | .opn => True
theorem not_dated {D:Doc} {p:Nat} (h:datedB D p=false):¬ dtC (D.c p)/\¬ dtT D p:=by
 unfold datedB at h;rw [decide_eq_false_iff_not] at h;unfold dtC dtT;omega
theorem dtd_law {D:Doc} {k:Nat} {x:Nat × List UInt8} {p:Nat} (h:x.2=D.sub k (p - k)) (hk:k<p) (h2:∃ dl,dtRun D k none=dtRun D p dl/\dtK D k (p,dl)=kmap x.1):DatL D k (dtd D (.good x p)):=by
 unfold dtd;dsimp only;cases hb:datedB D p with
 | true => rw [if_pos rfl];exact trivial
 | false =>
  rw [if_neg (by simp)];obtain ⟨h3,h4⟩:=not_dated hb;obtain ⟨dl,h5,h6⟩:=h2;rw [dt_stop h3 h4] at h5;exact ⟨h,hk,by rw [h5],by rw [h5];exact h6⟩
theorem timN_law (D:Doc) (k:Nat) (_h:D.c (k+2)=58):DatL D k (timN D k):=by
 unfold timN;cases hb:clkB D k with
 | false => rw [if_pos rfl];exact trivial
 | true =>
  rw [if_neg (by simp)];have hc:clkN D k ≠ 0:=fun e => by unfold clkB at hb;rw [e] at hb;simp at hb
  have h8:=(clkN_in D k hc).2;have hp:=clk_plain D k hc;refine dtd_law (by rw [Nat.add_sub_cancel_left]) (by omega) ⟨none,dt_plain _ k (fun i hi => ?_),?_⟩
  ·have:=hp i hi;unfold dtC;omega
  ·unfold dtK;rw [if_pos _h];rfl
theorem dat_law (D:Doc) (k:Nat) (h4:0<=twoRun D k 0 4) (h45:D.c (k+4)=45):DatL D k (dtd D (dat D k)):=by
 unfold dat rawR;have f0:=two_fig D 4 k 0 h4;have hc2:D.c (k+2) ≠ 58:=by have:=f0 2 (by omega);omega
 unfold datN;by_cases a1:twoRun D (k+5) 0 2<0\/D.c (k+7) ≠ 45\/twoRun D (k+8) 0 2<0
 ·rw [if_pos a1];exact trivial
 rw [if_neg a1];have f5:=two_fig D 2 (k+5) 0 (by omega);have f8:=two_fig D 2 (k+8) 0 (by omega);have p10:∀ i,i<10->dtC (D.c (k+i)):=by
  intro i hi;rcases qqg i 4 with a | a
  ·exact .inl (f0 i a)
  rcases qqg i 5 with b | b
  ·obtain rfl:i=4:=(by omega);unfold dtC;omega
  rcases qqg i 7 with c | c
  ·have:=f5 (i - 5) (by omega);rw [show k+5+(i - 5)=k+i by omega] at this;exact .inl this
  rcases qqg i 8 with d | d
  ·obtain rfl:i=7:=(by omega);unfold dtC;omega
  ·have:=f8 (i - 8) (by omega);rw [show k+8+(i - 8)=k+i by omega] at this;exact .inl this
 by_cases a2:twoRun D (k+5) 0 2<1\/12<twoRun D (k+5) 0 2\/twoRun D (k+8) 0 2<1\/monthP (twoRun D k 0 4) (twoRun D (k+5) 0 2)<twoRun D (k+8) 0 2\/twoRun D k 0 4=0
 ·rw [if_pos a2];exact trivial
 rw [if_neg a2];by_cases a3:D.c (k+10) ≠ 84/\D.c (k+10) ≠ 116/\(D.c (k+10) ≠ 32\/twoRun D (k+11) 0 2<0)
 ·rw [if_pos a3,if_neg (by simp)];refine dtd_law (by rw [Nat.add_sub_cancel_left]) (by omega) ⟨none,dt_plain 10 k p10,?_⟩;unfold dtK;rw [if_neg hc2];rfl
 rw [if_neg a3];by_cases a4:D.c (k+10)=116
 ·rw [if_pos a4];exact trivial
 rw [if_neg a4];by_cases a5:clkN D (k+11)=0
 ·rw [if_pos a5];exact trivial
 rw [if_neg a5];by_cases a6:clkB D (k+11)=false
 ·rw [if_pos a6];exact trivial
 rw [if_neg a6];obtain ⟨c,hc⟩:∃ c,clkN D (k+11)=c:=⟨_,rfl⟩;have hp:=clk_plain D (k+11) a5;rw [hc] at hp a5 ⊢;have ht:dtT D (k+10):=by
  unfold dtT;by_cases h84:D.c (k+10)=84
  ·exact .inl h84
  ·have h11:=two_fig D 2 (k+11) 0 (by omega) 0 (by omega);rw [Nat.add_zero] at h11;exact .inr (.inr ⟨by omega,h11⟩)
 have hnc:¬ dtC (D.c (k+10)):=by unfold dtT at ht;unfold dtC;omega
 have hin:k+10<D.n:=Doc.in_of (by unfold dtT at ht;omega);have hrun:dtRun D k none=dtRun D (k+11+c) (some (k+10)):=by
  rw [dt_plain 10 k p10,dt_t hin hnc ht];exact dt_plain c (k+11) (fun i hi => by have:=hp i hi;unfold dtC;omega)
 have hk:∀ p z,zoneIn D (k+10+1) (p - (k+10+1))=z->dtK D k (p,some (k+10))=if z=true then 15 else 14:=by
  intro p z hz;unfold dtK;rw [if_neg hc2];dsimp only;rw [hz]
 by_cases a7:D.c (k+11+c)=90
 ·rw [if_pos a7,if_neg (by simp)];refine dtd_law (by rw [Nat.add_sub_cancel_left]) (by omega) ⟨some (k+10),?_,?_⟩
  ·rw [hrun,dt_c (Doc.in_of (by omega)) (by unfold dtC;omega),show k+11+c+1=k+(11+c+1) by omega]
  ·rw [hk _ true (zone_yes D _ _ c (by omega) (by rw [show k+10+1+c=k+11+c by omega];omega))];rfl
 rw [if_neg a7];by_cases a8:D.c (k+11+c)=122
 ·rw [if_pos a8];exact trivial
 rw [if_neg a8];by_cases a9:D.c (k+11+c)=43\/D.c (k+11+c)=45
 ·rw [if_pos a9];by_cases b1:twoRun D (k+11+c+1) 0 2<0\/D.c (k+11+c+3) ≠ 58\/twoRun D (k+11+c+4) 0 2<0
  ·rw [if_pos b1];exact trivial
  rw [if_neg b1];by_cases b2:23<twoRun D (k+11+c+1) 0 2\/59<twoRun D (k+11+c+4) 0 2
  ·rw [if_pos b2];exact trivial
  rw [if_neg b2,if_neg (by simp)];have g1:=two_fig D 2 (k+11+c+1) 0 (by omega);have g4:=two_fig D 2 (k+11+c+4) 0 (by omega);refine dtd_law (by rw [Nat.add_sub_cancel_left]) (by omega) ⟨some (k+10),?_,?_⟩
  ·rw [hrun,dt_plain 6 (k+11+c),show k+11+c+6=k+(11+c+6) by omega];intro i hi;rcases qqg i 1 with a | a
   ·obtain rfl:i=0:=(by omega);rw [Nat.add_zero];unfold dtC;omega
   rcases qqg i 3 with b | b
   ·have:=g1 (i - 1) (by omega);rw [show k+11+c+1+(i - 1)=k+11+c+i by omega] at this;exact .inl this
   rcases qqg i 4 with d | d
   ·obtain rfl:i=3:=(by omega);unfold dtC;omega
   ·have:=g4 (i - 4) (by omega);rw [show k+11+c+4+(i - 4)=k+11+c+i by omega] at this;exact .inl this
  ·rw [hk _ true (zone_yes D _ _ c (by omega) (by rw [show k+10+1+c=k+11+c by omega];omega))];rfl
 ·rw [if_neg a9,if_neg (by simp)];refine dtd_law (by rw [Nat.add_sub_cancel_left]) (by omega) ⟨some (k+10),?_,?_⟩
  ·rw [hrun,show k+11+c=k+(11+c) by omega]
  ·rw [hk _ false (by rw [show k+(11+c) - (k+10+1)=c by omega];exact zone_no D c (k+11) hp)];rfl
theorem numD_law (D:Doc) (k:Nat) (h:(0<=twoRun D k 0 4/\D.c (k+4)=45)\/(0<=twoRun D k 0 2/\D.c (k+2)=58)):DatL D k (numP D k):=by
 unfold numP;by_cases h1:0<=twoRun D k 0 4/\D.c (k+4)=45
 ·rw [if_pos h1];exact dat_law D k h1.1 h1.2
 ·have h2:0<=twoRun D k 0 2/\D.c (k+2)=58:=by omega
  rw [if_neg h1,if_pos h2];exact timN_law D k h2.2
theorem fig_two (D:Doc):∀ (m k v:Nat),(∀ i,i<m->48<=D.c (k+i)/\D.c (k+i)<=57)->0<=twoRun D k v m
 | 0,_,v,_ => by rw [twoRun];omega
 | m+1,k,v,h => by
  have h0:=h 0 (by omega);rw [Nat.add_zero] at h0;rw [twoRun,if_pos h0];exact fig_two D m (k+1) _ (fun i hi => by rw [show k+1+i=k+(i+1) by omega];exact h (i+1) (by omega))
theorem dval_10i (x:Nat):dval x<10 ↔ 48<=x/\x<=57:=by
 have:=dval_10 x;rw [Bool.eq_iff_iff,decide_eq_true_iff,decide_eq_true_iff] at this;exact this
theorem dtS_iff (D:Doc) (k:Nat) (h:48<=D.c k/\D.c k<=57):dtS D k ↔ ((0<=twoRun D k 0 4/\D.c (k+4)=45)\/(0<=twoRun D k 0 2/\D.c (k+2)=58)):=by
 unfold dtS;rw [dval_10i,dval_10i,dval_10i];constructor
 ·rintro (⟨h1,h2⟩ | ⟨h1,h2,h3,h5⟩)
  ·refine .inr ⟨fig_two D 2 k 0 (fun i hi => ?_),h2⟩
   match i,hi with
   | 0,_ => exact h
   | 1,_ => exact h1
  ·refine .inl ⟨fig_two D 4 k 0 (fun i hi => ?_),h5⟩
   match i,hi with
   | 0,_ => exact h
   | 1,_ => exact h1
   | 2,_ => exact h2
   | 3,_ => exact h3
 ·rintro (⟨h1,h2⟩ | ⟨h1,h2⟩)
  ·have f:=two_fig D 4 k 0 h1;exact .inr ⟨f 1 (by omega),f 2 (by omega),f 3 (by omega),h2⟩
  ·have f:=two_fig D 2 k 0 h1;exact .inl ⟨f 1 (by omega),h2⟩
theorem dt_three (D:Doc) (k:Nat) (h:48<=D.c k/\D.c k<=57) (hs:dtS D k):∃ dl,dtRun D k none=dtRun D (k+3) dl/\dl=none:=by
 refine ⟨none,dt_plain 3 k (fun i hi => ?_),rfl⟩;unfold dtS at hs;rw [dval_10i,dval_10i,dval_10i] at hs;unfold dtC
 match i,hi with
 | 0,_ => exact .inl h
 | 1,_ => show 48<=D.c (k+1)/\_\/_;omega
 | 2,_ => show 48<=D.c (k+2)/\_\/_;omega
end Go.Proofs.YtpgmddjgcgpoeaaGreat
