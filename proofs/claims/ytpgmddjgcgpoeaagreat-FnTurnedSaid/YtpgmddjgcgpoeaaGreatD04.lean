/-
  A part of the proof.
-/
import Derived.Test.YtpgmddjgcgpoeaaGreatD02
import Derived.Test.YtpgmddjgcgpoeaaGreatD03
import Derived.Test.YtpgmddjgcgpoeaaGreatD01
set_option linter.unusedVariables false
set_option linter.unusedSimpArgs false
set_option maxRecDepth 100000
set_option maxHeartbeats 8000000
namespace Go.Proofs.YtpgmddjgcgpoeaaGreat
open Go.RowKit
theorem more_in (D:Doc) (q k:Nat) (hq:q ≠ 0) (h:three D q k):k+3+more D q k<=D.n:=by
 have h2:=Doc.in_of (D:=D) (k:=k+2) (by have:=h.2.2;omega);have h3:=Doc.in_of (D:=D) (k:=k+3);have h4:=Doc.in_of (D:=D) (k:=k+4);unfold more;split
 ·split <;> omega
 ·omega
theorem wsl_le (D:Doc) (k:Nat) (hk:k<=D.n):wsl D k<=D.n:=by
 induction hm:D.n - k using Nat.strongRecOn generalizing k with
 | _ m ih =>
  have h2:=wsEnd_ge D k;have h2':=wsEnd_le D k;rw [wsl];split
  ·omega
  ·rename_i h;have h3:D.c (wsEnd D k) ≠ 0:=fun e => by apply h;unfold nlen;rw [if_neg (by omega),if_neg (by omega)]
   have h4:=Doc.in_of h3;have h5:nlen D (wsEnd D k)<=D.n - wsEnd D k:=by
    unfold nlen;have:=Doc.in_of (D:=D) (k:=wsEnd D k+1);split
    ·omega
    ·split <;> omega
   exact ih (D.n - (wsEnd D k+nlen D (wsEnd D k))) (by omega) _ (by omega) rfl
theorem nlen_le (D:Doc) (k:Nat) (h:nlen D k ≠ 0):k+nlen D k<=D.n:=by
 have h1:=Doc.in_of (D:=D) (k:=k);have h2:=Doc.in_of (D:=D) (k:=k+1);unfold nlen at h ⊢;by_cases a:D.c k=10
 ·rw [if_pos a];omega
 rw [if_neg a] at h ⊢;by_cases b:D.c k=13/\D.c (k+1)=10
 ·rw [if_pos b];omega
 ·rw [if_neg b] at h;exact absurd rfl h
theorem linRun_in (D:Doc) (q:Nat) (hq:q ≠ 0) (k k':Nat) (acc l:List UInt8) (h:linRun D q k acc=.good l k'):k+3<=k'/\k'<=D.n:=by
 induction hm:D.n - k using Nat.strongRecOn generalizing k acc with
 | _ m ih =>
  by_cases hn:D.n<=k
  ·rw [lin_stop hn] at h;cases h
  by_cases h3:three D q k
  ·rw [lin_end (by omega) h3] at h;have:=more_in D q k hq h3;injection h with _ h;omega
  by_cases hb:D.c k=92/\q=34
  ·by_cases hl:nlen D (wsEnd D (k+1)) ≠ 0
   ·rw [lin_ws (by omega) h3 hb hl] at h;have h1:=wsEnd_ge D (k+1);have h2:=wsl_ge D (wsEnd D (k+1)+nlen D (wsEnd D (k+1)));have:=ih (D.n - wsl D (wsEnd D (k+1)+nlen D (wsEnd D (k+1)))) (by omega) _ _ h rfl;omega
   ·rw [lin_esc (by omega) h3 hb (by omega)] at h;cases he:esc D (k+1) with
    | good l' k2 =>
     rw [he] at h;have h1:=esc_in D _ _ _ he;have:=ih (D.n - k2) (by omega) k2 _ h rfl;omega
    | bad => rw [he] at h;cases h
    | opn => rw [he] at h;cases h
  by_cases h10:D.c k=10
  ·rw [lin_nl (by omega) h3 hb h10] at h;have:=ih (D.n - (k+1)) (by omega) _ _ h rfl;omega
  by_cases h13:D.c k=13/\D.c (k+1)=10
  ·rw [lin_crnl (by omega) h3 hb h10 h13] at h;have:=ih (D.n - (k+2)) (by omega) _ _ h rfl;omega
  by_cases hs:sg D k=0
  ·rw [lin_bad (by omega) h3 hb h10 h13 hs] at h;cases h
  ·rw [lin_go (by omega) h3 hb h10 h13 hs] at h;have:=ih (D.n - (k+sg D k)) (by omega) _ _ h rfl;omega
theorem lin_in (D:Doc) (q k k':Nat) (hq:q ≠ 0) (l:List UInt8) (h:lin D q k=.good l k'):k<k'/\k'<=D.n:=by
 have:=linRun_in D q hq _ _ _ _ h;omega
theorem grp_le' (D:Doc) (b k:Nat):grp D b k<=D.n - k:=by
 induction hm:D.n - k using Nat.strongRecOn generalizing k with
 | _ m ih =>
  rw [grp];have:=dgN_le D b k;split
  ·omega
  split
  ·rename_i h0 h1;have hin:=Doc.in_of (D:=D) (k:=k+dgN D b k) (by omega);have:=ih (D.n - (k+dgN D b k+1)) (by omega) (k+dgN D b k+1) rfl;split <;> omega
  ·omega
theorem dtd_in {D:Doc} {r:R (Nat × List UInt8)} {x:Nat × List UInt8} {p:Nat} (h:dtd D r=.good x p):r=.good x p:=by
 cases r with
 | good y k => unfold dtd at h;dsimp only at h;split at h;cases h;exact h
 | bad => cases h
 | opn => cases h
theorem hasB_le {D:Doc} {k:Nat} {l:List UInt8} (h:hasB D k l=true):k+l.length<=D.n:=by unfold hasB at h;simp at h;exact h.1
theorem datN_le (D:Doc) (k:Nat) (hk:k<=D.n):k+(datN D k).2<=D.n:=by
 have h8:=twoRun_in D 2 (k+8) 0;have hck:=clkN_in D (k+11);have hz:=Doc.in_of (D:=D) (k:=k+11+clkN D (k+11));have hm4:=twoRun_in D 2 (k+11+clkN D (k+11)+4) 0;unfold datN;generalize clkN D (k+11)=c at *;generalize monthP (twoRun D k 0 4) (twoRun D (k+5) 0 2)=mm at *;generalize twoRun D k 0 4=y at *;generalize twoRun D (k+5) 0 2=m at *;generalize twoRun D (k+8) 0 2=d at *;generalize twoRun D (k+11) 0 2=x at *;generalize twoRun D (k+11+c+1) 0 2=h at *;generalize twoRun D (k+11+c+4) 0 2=n at *;by_cases a1:m<0\/D.c (k+7) ≠ 45\/d<0
 ·rw [if_pos a1];simpa using hk
 rw [if_neg a1];by_cases a2:m<1\/12<m\/d<1\/mm<d\/y=0
 ·rw [if_pos a2];simpa using hk
 rw [if_neg a2];by_cases a3:D.c (k+10) ≠ 84/\D.c (k+10) ≠ 116/\(D.c (k+10) ≠ 32\/x<0)
 ·rw [if_pos a3];simp only;omega
 rw [if_neg a3];by_cases a4:D.c (k+10)=116
 ·rw [if_pos a4];simpa using hk
 rw [if_neg a4];by_cases a5:c=0
 ·rw [if_pos a5];simpa using hk
 rw [if_neg a5];by_cases a6:clkB D (k+11)=false
 ·rw [if_pos a6];simpa using hk
 rw [if_neg a6];by_cases a7:D.c (k+11+c)=90
 ·rw [if_pos a7];simp only;omega
 rw [if_neg a7];by_cases a8:D.c (k+11+c)=122
 ·rw [if_pos a8];simpa using hk
 rw [if_neg a8];by_cases a9:D.c (k+11+c)=43\/D.c (k+11+c)=45
 ·rw [if_pos a9];by_cases b1:h<0\/D.c (k+11+c+3) ≠ 58\/n<0
  ·rw [if_pos b1];simpa using hk
  rw [if_neg b1];by_cases b2:23<h\/59<n
  ·rw [if_pos b2];simpa using hk
  rw [if_neg b2];simp only;omega
 rw [if_neg a9];simp only;omega
theorem raw_in {D:Doc} {k p:Nat} {x:Nat × Nat} {y:Nat × List UInt8} (h:rawR D k x=.good y p) (hm:k+x.2<=D.n):k<p/\p<=D.n:=by
 unfold rawR at h;split at h
 ·cases h
 ·injection h with _ h;omega
theorem expN_in (D:Doc) (k n kind p:Nat) (x:Nat × List UInt8) (hn:0<n) (hk:k+n<=D.n) (h:expN D k n kind=.good x p):k<p/\p<=D.n:=by
 unfold expN at h;split at h
 ·split at h
  ·cases h
  ·have:=dgN_le D 10 0;injection h with _ h;have hg:=grp_le' D 10 (k+n+expS D (k+n));omega
 ·injection h with _ h;omega
theorem fracN_in (D:Doc) (k n p:Nat) (x:Nat × List UInt8) (hn:0<n) (hk:k+n<=D.n) (h:fracN D k n=.good x p):k<p/\p<=D.n:=by
 unfold fracN at h;split at h
 ·split at h
  ·cases h
  ·have hg:=grp_le' D 10 (k+n+1);exact expN_in D k _ _ p x (by omega) (by omega) h
 ·exact expN_in D k n _ p x hn hk h
theorem tenN_in (D:Doc) (k n p:Nat) (x:Nat × List UInt8) (hk:k+n<=D.n) (h:tenN D k n=.good x p):k<p/\p<=D.n:=by
 unfold tenN at h;split at h
 ·cases h
 ·have hg:=grp_le' D 10 (k+n);exact fracN_in D k _ p x (by omega) (by omega) h
theorem numP_in (D:Doc) (k p:Nat) (x:Nat × List UInt8) (hk:k<=D.n) (h:numP D k=.good x p):k<p/\p<=D.n:=by
 unfold numP at h;split at h
 ·exact raw_in (dtd_in h) (datN_le D k hk)
 split at h
 ·unfold timN at h;split at h
  ·cases h
  ·rename_i hb;have h1:=dtd_in h;have hc:clkN D k ≠ 0:=fun e => hb (by unfold clkB;rw [e];rfl)
   have:=clkN_in D k hc;injection h1 with _ h1;omega
 have hbase:∀ b,baseN D k b=.good x p->k<p/\p<=D.n:=fun b hb => by
  unfold baseN at hb;have:=grp_le' D b (k+2);split at hb
  ·cases hb
  ·injection hb with _ hb;omega
 split at h
 ·exact hbase _ h
 split at h
 ·exact hbase _ h
 split at h
 ·exact hbase _ h
 have hs:k+sgnN D k<=D.n:=by
  unfold sgnN;have:=Doc.in_of (D:=D) (k:=k);split <;> omega
 unfold infN at h;split at h
 ·rename_i hb;have:k+sgnN D k+3<=D.n:=by
   rcases hb with hb | hb
   ·exact hasB_le hb
   ·exact hasB_le hb
  injection h with _ h;omega
 ·exact tenN_in D k _ p x hs h
theorem spc_rg (D:Doc):∀ (m k k':Nat),D.n - k=m->spc D k=.good () k'->k<=k'/\(k<=D.n->k'<=D.n):=by
 intro m
 induction m using Nat.strongRecOn with
 | _ m ih =>
  intro k k' hm h;rw [spc] at h;split at h
  ·rename_i k2 hc;have h1:=cmt_ge D _ _ hc;have h1':=cmt_le D _ _ hc;have h2:=wsEnd_ge D k;have h2':=wsEnd_le D k;split at h
   ·injection h with _ h;omega
   ·rename_i hn;have h3:D.c k2 ≠ 0:=fun e => by apply hn;unfold nlen;rw [if_neg (by omega),if_neg (by omega)]
    have h4:=Doc.in_of h3;have h5:=nlen_le D k2 hn;have:=ih (D.n - (k2+nlen D k2)) (by omega) (k2+nlen D k2) k' rfl h;omega
  ·cases h
theorem lst_in (D:Doc) (f:Nat->R Tree):∀ (m k:Nat) (acc:List Tree) (t:Tree) (p:Nat),D.n - k=m->lstRun D f k acc=.good t p->k<p/\p<=D.n:=by
 intro m
 induction m using Nat.strongRecOn with
 | _ m ih =>
  intro k acc t p hm h;rw [lstRun] at h;split at h
  ·rename_i k1 hs;have h1:=spc_rg D _ k k1 rfl hs;split at h
   ·rename_i hc;have:=Doc.in_of (D:=D) (k:=k1) (by omega);injection h with _ h;omega
   ·split at h
    ·rename_i v k2 hf;split at h
     ·rename_i hg;split at h
      ·rename_i k3 hs3;have h3:=spc_rg D _ k2 k3 rfl hs3;split at h
       ·rename_i h44;have:=Doc.in_of (D:=D) (k:=k3) (by omega);have:=ih (D.n - (k3+1)) (by omega) (k3+1) _ t p rfl h;omega
       ·split at h
        ·have:=Doc.in_of (D:=D) (k:=k3) (by omega);injection h with _ h;omega
        ·cases h
      ·cases h
      ·cases h
     ·cases h
    ·cases h
    ·cases h
  ·unfold R.dead at h;split at h <;> cases h
theorem tabNx_in {D:Doc} {k k':Nat} (_hk:k<=D.n) (h:tabNx D k=.comma k'\/tabNx D k=.fin k'):k<k'/\k'<=D.n:=by
 unfold tabNx at h;have h1:=wsEnd_ge D k;have h2:=wsEnd_ge D (wsEnd D k+1);have h3:=wsEnd_le D (wsEnd D k+1);have h4:=Doc.in_of (D:=D) (k:=wsEnd D k);by_cases a:D.c (wsEnd D k)=44
 ·rw [if_pos a] at h;by_cases b:D.c (wsEnd D (wsEnd D k+1))=125
  ·rw [if_pos b] at h;rcases h with h | h <;> cases h
  rw [if_neg b] at h;by_cases c:latB D (wsEnd D (wsEnd D k+1))
  ·rw [if_pos c] at h;rcases h with h | h <;> cases h
  rw [if_neg c] at h;rcases h with h | h
  ·injection h with h;omega
  ·cases h
 rw [if_neg a] at h;by_cases b:D.c (wsEnd D k)=125
 ·rw [if_pos b] at h;rcases h with h | h
  ·cases h
  ·injection h with h;omega
 rw [if_neg b] at h;by_cases c:latB D (wsEnd D k)
 ·rw [if_pos c] at h;rcases h with h | h <;> cases h
 ·rw [if_neg c] at h;rcases h with h | h <;> cases h
theorem tab_in (D:Doc) (f:Nat->R Tree):∀ (m k:Nat) (acc:List Tree) (t:Tree) (p:Nat),D.n - k=m->tabRun D f k acc=.good t p->k<p/\p<=D.n:=by
 intro m
 induction m using Nat.strongRecOn with
 | _ m ih =>
  intro k acc t p hm h;rw [tabRun] at h;split at h
  ·split at h
   ·cases h
   ·split at h
    ·rename_i v k3 hf;split at h
     ·rename_i hg;split at h
      ·rename_i k5 hs;have h1:=tabNx_in hg.2 (.inl hs);have:=ih (D.n - k5) (by omega) k5 _ t p rfl h;omega
      ·rename_i k4 hs;have h1:=tabNx_in hg.2 (.inr hs);injection h with _ h;omega
      ·cases h
      ·cases h
     ·cases h
    ·cases h
    ·cases h
  ·cases h
  ·cases h
theorem valP_in (D:Doc) (d k:Nat) (t:Tree) (p:Nat) (hk:k<=D.n) (h:valP D d k=.good t p):k<p/\p<=D.n:=by
 cases d with
 | zero => rw [valP] at h;cases h
 | succ d =>
  rw [valP] at h;split at h
  ·rename_i h3;have hq:D.c k ≠ 0:=(by unfold three at h3;omega);cases hl:lin D (D.c k) k with
   | good l k' => rw [hl] at h;have:=lin_in D _ _ _ hq _ hl;injection h with _ h;omega
   | bad => rw [hl] at h;cases h
   | opn => rw [hl] at h;cases h
  split at h
  ·cases hl:txt D (D.c k) k with
   | good l k' => rw [hl] at h;have:=txt_in D _ _ _ _ hl;injection h with _ h;omega
   | bad => rw [hl] at h;cases h
   | opn => rw [hl] at h;cases h
  split at h
  ·rename_i hb;have:=hasB_le hb;injection h with _ h;simp at this;omega
  split at h
  ·rename_i hb;have:=hasB_le hb;injection h with _ h;simp at this;omega
  split at h
  ·have:=lst_in D _ _ (k+1) _ t p rfl h;omega
  split at h
  ·unfold tabP at h;have h1:=wsEnd_ge D (k+1);split at h
   ·rename_i hc;have:=Doc.in_of (D:=D) (k:=wsEnd D (k+1)) (by omega);injection h with _ h;omega
   ·split at h
    ·cases h
    ·have:=tab_in D _ _ (wsEnd D (k+1)) _ t p rfl h;omega
  ·cases hl:numP D k with
   | good x k' => rw [hl] at h;have:=numP_in D k k' x hk hl;injection h with _ h;omega
   | bad => rw [hl] at h;cases h
   | opn => rw [hl] at h;cases h
structure Ex where
 kind:Nat
 keys:List (List UInt8)
 val:Tree
def Tree.zero:Tree:=.mk 0 [] [] []
def kvP (D:Doc) (k:Nat):R (Option Ex) :=
 match keyP D k with
 | .good ks k2 => if D.c k2=61 then (match valP D 51 (wsEnd D (k2+1)) with | .good t k3 => .good (some ⟨0,ks,t⟩) k3 | .bad => .bad | .opn => .opn) else .bad
 | .bad => .bad
 | .opn => .opn
def tblP (D:Doc) (k m:Nat):R (Option Ex) :=
 match keyP D (k+m) with
 | .good ks k2 => if D.c k2=93/\(m=2->D.c (k2+1)=93) then .good (some ⟨m,ks,.zero⟩) (k2+m) else .bad
 | .bad => .bad
 | .opn => .opn
def headP (D:Doc) (k:Nat):R (Option Ex) :=
 if D.c k=91 then (if D.c (k+1)=91 then tblP D k 2 else tblP D k 1)
 else if k<D.n/\D.c k ≠ 35/\D.c k ≠ 10/\D.c k ≠ 13 then kvP D k
 else .good none k
def eolP (D:Doc) (k:Nat):R Unit:=if D.n<=k then .good () k else if nlen D k=0 then .bad else .good () (k+nlen D k)
def tailP (D:Doc) (k:Nat):R Unit:=match cmt D (wsEnd D k) with | .good _ k2 => eolP D k2 | .bad => .bad | .opn => .opn
def docRun (D:Doc) (k:Nat) (acc:List Ex):R (List Ex) :=
 if D.n<=k then .good acc k
 else match headP D (wsEnd D k) with
  | .good o k1 => match tailP D k1 with
   | .good _ k2 => if _h:k<k2 then docRun D k2 (acc++o.toList) else .bad
   | .bad => .bad
   | .opn => .opn
  | .bad => .bad
  | .opn => .opn
termination_by D.n - k
theorem nlen_inq {D:Doc} {k:Nat} (h:nlen D k ≠ 0):k+nlen D k<=D.n:=by
 unfold nlen at *;have h1:=Doc.in_of (D:=D) (k:=k);have h2:=Doc.in_of (D:=D) (k:=k+1);split at h
 ·rw [if_pos (by assumption)];omega
 ·rw [if_neg (by assumption)];split at h
  ·rw [if_pos (by assumption)];omega
  ·exact absurd rfl h
theorem keyRun_ge (D:Doc):∀ (m k k':Nat) (acc l:List (List UInt8)),D.n - k=m->keyRun D k acc=.good l k'->k<k'/\k'<=D.n:=by
 intro m
 induction m using Nat.strongRecOn with
 | _ m ih =>
  intro k k' acc l hm h;have h1:=wsEnd_ge D k;have hthen:∀ (j:Nat) (a:List (List UInt8)),k<j->j<=D.n->keyThen D j a=.good l k'->k<k'/\k'<=D.n:=by
   intro j a hj hj2 ht;have h2:=wsEnd_ge D j;have h3:=wsEnd_le D j;unfold keyThen at ht;by_cases hc:D.c (wsEnd D j)=46
   ·rw [if_pos hc] at ht;have:=Doc.in_of (D:=D) (k:=wsEnd D j) (by omega);have:=ih (D.n - (wsEnd D j+1)) (by omega) (wsEnd D j+1) k' a l rfl ht;omega
   ·rw [if_neg hc] at ht;injection ht with _ ht;omega
  by_cases hq:D.c (wsEnd D k)=34\/D.c (wsEnd D k)=39
  ·by_cases ht:three D (D.c (wsEnd D k)) (wsEnd D k)
   ·rw [key_three hq ht] at h;cases h
   ·rw [key_quote hq ht] at h;cases hx:txt D (D.c (wsEnd D k)) (wsEnd D k) with
    | good l' k2 =>
     rw [hx] at h;have h4:=txt_in D _ _ _ _ hx;exact hthen k2 _ (by omega) h4.2 h
    | bad => rw [hx] at h;cases h
    | opn => rw [hx] at h;cases h
  ·cases hb:bareB (D.c (wsEnd D k)) with
   | true =>
    rw [key_bare hq hb] at h;have h5:=bareEnd_go hb;have h6:=(bareEnd_ge D (wsEnd D k+1)).1;have h7:=Doc.in_of (bareB_nz hb);have h8:=(bareEnd_ge D (wsEnd D k)).2 (by omega);exact hthen _ _ (by omega) h8 h
   | false => rw [key_none hq hb] at h;cases h
theorem keyP_ge (D:Doc) (k k':Nat) (l:List (List UInt8)) (h:keyP D k=.good l k'):k<k'/\k'<=D.n:=keyRun_ge D _ k k' [] l rfl h
theorem eolP_ge {D:Doc} {k k':Nat} {u:Unit} (h:eolP D k=.good u k'):k<=k'/\(k<D.n->k<k')/\(k<=D.n->k'<=D.n):=by
 unfold eolP at h;split at h
 ·injection h with _ h;omega
 ·split at h
  ·cases h
  ·rename_i hn;have:=nlen_inq hn;injection h with _ h;omega
theorem tailP_ge {D:Doc} {k k':Nat} {u:Unit} (h:tailP D k=.good u k'):k<=k'/\(k<D.n->k<k')/\(k<=D.n->k'<=D.n):=by
 unfold tailP at h;have h1:=wsEnd_ge D k;have h2:=wsEnd_le D k;split at h
 ·rename_i k2 hc;have h3:=cmt_ge D _ _ hc;have h4:=cmt_le D _ _ hc;have h5:=eolP_ge h;omega
 ·cases h
 ·cases h
theorem kvP_ge {D:Doc} {k k':Nat} {o:Option Ex} (h:kvP D k=.good o k'):k<k'/\k'<=D.n:=by
 unfold kvP at h;split at h
 ·rename_i ks k2 hk;have h1:=keyP_ge D k k2 ks hk;split at h
  ·rename_i h61;have h2:=Doc.in_of (D:=D) (k:=k2) (by omega);have h3:=wsEnd_ge D (k2+1);have h4:=wsEnd_le D (k2+1);split at h
   ·rename_i t k3 hv;have h5:=valP_in D 51 _ _ _ (by omega) hv;injection h with _ h;omega
   ·cases h
   ·cases h
  ·cases h
 ·cases h
 ·cases h
theorem tblP_ge {D:Doc} {k k' m:Nat} {o:Option Ex} (hm:1<=m/\m<=2) (h:tblP D k m=.good o k'):k<k'/\k'<=D.n:=by
 unfold tblP at h;split at h
 ·rename_i ks k2 hk;have h1:=keyP_ge D _ k2 ks hk;split at h
  ·rename_i hc;have h2:=Doc.in_of (D:=D) (k:=k2) (by omega);have h3:m=2->k2+1<D.n:=fun hm => Doc.in_of (D:=D) (by have:=hc.2 hm;omega)
   injection h with _ h;omega
  ·cases h
 ·cases h
 ·cases h
theorem headP_ge {D:Doc} {k k':Nat} {o:Option Ex} (hk:k<=D.n) (h:headP D k=.good o k'):k<=k'/\k'<=D.n:=by
 unfold headP at h;split at h
 ·split at h
  ·have:=tblP_ge (by omega) h;omega
  ·have:=tblP_ge (by omega) h;omega
 ·split at h
  ·have:=kvP_ge h;omega
  ·injection h with _ h;omega
theorem doc_end {D:Doc} {k:Nat} {acc:List Ex} (h:D.n<=k):docRun D k acc=.good acc k:=by rw [docRun,if_pos h]
theorem doc_go {D:Doc} {k k1 k2:Nat} {u:Unit} {acc:List Ex} {o:Option Ex} (h:k<D.n) (h1:headP D (wsEnd D k)=.good o k1) (h2:tailP D k1=.good u k2):k<k2/\k2<=D.n/\docRun D k acc=docRun D k2 (acc++o.toList):=by
 have h3:=wsEnd_ge D k;have h4:=wsEnd_le D k;have h5:=headP_ge (by omega) h1;have h6:=tailP_ge h2;have h7:k<k2:=by omega
 refine ⟨h7,by omega,?_⟩;generalize hx:docRun D k2 (acc++o.toList)=x;rw [docRun,if_neg (by omega),h1];simp only [];rw [h2];simp only [];rw [dif_pos h7,hx]
theorem doc_hbad {D:Doc} {k:Nat} {acc:List Ex} (h:k<D.n) (h1:headP D (wsEnd D k)=.bad):docRun D k acc=.bad:=by rw [docRun,if_neg (by omega),h1]
theorem doc_hopn {D:Doc} {k:Nat} {acc:List Ex} (h:k<D.n) (h1:headP D (wsEnd D k)=.opn):docRun D k acc=.opn:=by rw [docRun,if_neg (by omega),h1]
theorem doc_tbad {D:Doc} {k k1:Nat} {acc:List Ex} {o:Option Ex} (h:k<D.n) (h1:headP D (wsEnd D k)=.good o k1) (h2:tailP D k1=.bad):docRun D k acc=.bad:=by
 rw [docRun,if_neg (by omega),h1];simp only [];rw [h2]
theorem doc_topn {D:Doc} {k k1:Nat} {acc:List Ex} {o:Option Ex} (h:k<D.n) (h1:headP D (wsEnd D k)=.good o k1) (h2:tailP D k1=.opn):docRun D k acc=.opn:=by
 rw [docRun,if_neg (by omega),h1];simp only [];rw [h2]
def Err (w:World) (base:Nat) (v:Value):Prop :=
 ∃ (h:Nat) (a:Option Addr) (n c:Nat) (s:ByteArray),v=.iface 105 (.pointer (some ⟨h,0,none⟩))/\base<=h/\c<=9223372036854775807/\Blk w h [.slice a n c,.string s,.slice none 0 0] 108
theorem Err.kp {w w':World} {base:Nat} {v:Value} (h:Err w base v) (k:Kp Nil w w'):Err w' base v:=by
 obtain ⟨h,a,n,c,s,e,hb,hc,hB⟩:=h;exact ⟨h,a,n,c,s,e,hb,hc,hB.kpNil k⟩
theorem Err.mono {w:World} {base base':Nat} {v:Value} (h:Err w base v) (k:base'<=base):Err w base' v:=by
 obtain ⟨h,a,n,c,s,e,hb,hc,hB⟩:=h;exact ⟨h,a,n,c,s,e,by omega,hc,hB⟩
theorem newErr_c (a:Option Addr) (n c:Nat) (s:ByteArray) (w:World) (hc:c<=9223372036854775807) :
  Calls Tryz.prog 53 #[.slice a n c,.string s] w fun e w' => (∃ v,e=.returned v/\Err w' w.heap.size v)/\Kp Nil w w':=by
 go_enter Tryz.func53,Tryz.ntmps53;go_wp2_with fail
 go_ret;refine ⟨⟨_,rfl,w.heap.size,a,n,c,s,rfl,qqr _,hc,Blk.new w [.slice a n c,.string s,.slice none 0 0] 108⟩,(Kp.refl _ _).alloc _⟩
def Err3 (w:World) (e:Ending) (w':World):Prop:=(∃ v,e=.returned (.tuple #[.slice none 0 0,.slice none 0 0,v])/\Err w' w.heap.size v)/\Kp Nil w w'
def Err2 (w:World) (e:Ending) (w':World):Prop:=(∃ v,e=.returned (.tuple #[.slice none 0 0,v])/\Err w' w.heap.size v)/\Kp Nil w w'
def EolPost (D:Doc) (A:Option Addr) (C:Nat) (w:World) (r:R Unit) (e:Ending) (w':World):Prop :=
 match r with
 | .good _ k => w'=w/\∃ a n c,e=.returned (.tuple #[.slice a n c,.nilIface])/\VW D A C k a n c
 | _ => Err2 w e w'
theorem eol_c (D:Doc) (A a:Option Addr) (C k n c:Nat) (w:World) (hd:DocAt D A C w) (hv:VW D A C k a n c) :
  Calls Tryz.prog 55 #[.slice a n c] w (EolPost D A C w (eolP D k)):=by
 have hs:=D.small;have hC1:=hd.1;have hC2:=hd.2.1;have hln:=qql hv.len;have hln':=qql hv.len.symm;have hcp:=qql hv.cap;have hcp':=qql hv.cap.symm;obtain ⟨r,hr⟩:∃ r,eolP D k=r:=⟨_,rfl⟩;rw [hr];rcases qqg k D.n with hlt | hge
 ·obtain ⟨bd,q,rfl,hb⟩:=hv.bytes hd hlt;have b0:=hb 0 (by omega);simp only [Nat.add_zero] at b0;have HV:=qqh hv;have HD:=qqh hd;have HB:=qqh hb;clear hb hv hd;by_cases h10:D.c k=10
  ·obtain ⟨a',hva,hrun⟩:=VW.from_ HV.out hC1 1 1 rfl (by omega);have HVA:=qqh hva;obtain rfl:R.good () (k+1)=r:=(by rw [<- hr];unfold eolP nlen;rw [if_neg (by omega),if_pos h10,if_neg (by omega)]);have e1:((D.c k:Int) == 10)=true:=(by rw [beq_iff_eq];omega);clear hr hva h10;go_enter Tryz.func55,Tryz.ntmps55;go_wp2_with fail
   go_ret2;exact ⟨rfl,_,_,_,rfl,HVA.out⟩
  ·have e1:((D.c k:Int) == 10)=false:=qqn (by omega);by_cases h13:D.c k=13/\D.c (k+1)=10
   ·have hin:=Doc.in_of (D:=D) (k:=k+1) (by omega);have b1:=HB.out 1 (by omega);obtain ⟨a',hva,hrun⟩:=VW.from_ HV.out hC1 2 2 rfl (by omega);have HVA:=qqh hva;obtain rfl:R.good () (k+2)=r:=(by rw [<- hr];unfold eolP nlen;rw [if_neg (by omega),if_neg h10,if_pos h13,if_neg (by omega)]);have e2:((D.c k:Int) == 13)=true:=(by rw [beq_iff_eq];omega);have e3:((D.c (k+1):Int) == 10)=true:=(by rw [beq_iff_eq];omega);clear hr hva h13 h10;go_enter Tryz.func55,Tryz.ntmps55;go_wp2_with fail
    go_ret2;exact ⟨rfl,_,_,_,rfl,HVA.out⟩
   ·obtain rfl:R.bad=r:=(by rw [<- hr];unfold eolP nlen;rw [if_neg (by omega),if_neg h10,if_neg h13,if_pos rfl]);have hrun:=upto_ (some ⟨bd,q,none⟩) n c 1 1 rfl (by omega);clear hr;have key:∀ (hx:((D.c k:Int) == 13)=false\/(((D.c k:Int) == 13)=true/\(n<=1\/(2<=n/\((D.c (k+1):Int) == 10)=false)))),Calls Tryz.prog 55 #[.slice (some ⟨bd,q,none⟩) n c] w (EolPost D A C w R.bad):=by
     rintro (hx | ⟨hx,hy | ⟨hy,hz⟩⟩)
     ·clear h13;go_enter Tryz.func55,Tryz.ntmps55;go_wp2_with fail
      refine (newErr_c _ _ _ _ _ (by omega)).mono ?_;rintro e w1 ⟨⟨v,rfl,hE⟩,hk1⟩;go_wp2_with fail
      go_ret2;exact ⟨⟨_,rfl,hE⟩,hk1⟩
     ·clear h13;go_enter Tryz.func55,Tryz.ntmps55;go_wp2_with fail
      refine (newErr_c _ _ _ _ _ (by omega)).mono ?_;rintro e w1 ⟨⟨v,rfl,hE⟩,hk1⟩;go_wp2_with fail
      go_ret2;exact ⟨⟨_,rfl,hE⟩,hk1⟩
     ·have b1:=HB.out 1 (by omega);clear h13;go_enter Tryz.func55,Tryz.ntmps55;go_wp2_with fail
      refine (newErr_c _ _ _ _ _ (by omega)).mono ?_;rintro e w1 ⟨⟨v,rfl,hE⟩,hk1⟩;go_wp2_with fail
      go_ret2;exact ⟨⟨_,rfl,hE⟩,hk1⟩
    apply key
    by_cases hx:D.c k=13
    ·refine .inr ⟨by rw [beq_iff_eq];omega,?_⟩;rcases qqg n 2 with h2 | h2
     ·exact .inl (by omega)
     ·exact .inr ⟨h2,qqn (by omega)⟩
    ·exact .inl (qqn (by omega))
 ·obtain rfl:R.good () k=r:=by rw [<- hr];unfold eolP;rw [if_pos hge]
  have HV:=qqh hv;clear hv hd hr;go_enter Tryz.func55,Tryz.ntmps55;go_wp2_with fail
  go_ret2;exact ⟨rfl,_,_,_,rfl,HV.out⟩
theorem range_c (D:Doc) (A a:Option Addr) (C k n c bp:Nat) (w:World) (hlt:bp<w.heap.size) (h1:w.cell? ⟨bp,1,none⟩=some (.slice A D.n C)) (hC:C<=9223372036854775807) (hkc:k+c=C) (hkn:k+n<=D.n) (_hn:n<=c) :
  Calls Tryz.prog 57 #[.pointer (some ⟨bp,0,none⟩),.slice a n c] w fun e w' => (∃ x y,e=.returned (.agg #[.int .u32 x,.int .u32 y]))/\Kp Nil w w':=by
 have hs:=D.small;have h1n:decide ((C:Int) - (c:Int)<0)=false:=qqf (by omega);have h2n:decide ((D.n:Int)<(C:Int) - (c:Int)+(n:Int))=false:=qqf (by omega);go_enter Tryz.func57,Tryz.ntmps57;go_wp2_with fail
 refine bodyPost_ret (v:=.agg #[.int .u32 ((C:Int) - c),.int .u32 n]) (by simp [results,Tryz.results57,go_sem]) rfl ?_;exact ⟨⟨_,_,rfl⟩,(Kp.refl _ _).alloc _⟩
theorem offset_c (D:Doc) (A a:Option Addr) (C n c bp:Nat) (w:World) (h1:w.cell? ⟨bp,1,none⟩=some (.slice A D.n C)) (hC:C<=9223372036854775807) (hkc:c<=C) :
  Calls Tryz.prog 60 #[.pointer (some ⟨bp,0,none⟩),.slice a n c] w fun e w' => e=.returned (.int .i64 ((C:Int) - c))/\w'=w:=by
 have hs:=D.small;go_enter Tryz.func60,Tryz.ntmps60;go_wp2_with fail
 go_ret;exact ⟨rfl,rfl⟩
theorem rangeFrom_c (D:Doc) (A a a':Option Addr) (C n c n' c' bp:Nat) (w:World) (hlt:bp<w.heap.size) (h1:w.cell? ⟨bp,1,none⟩=some (.slice A D.n C)) (hC:C<=9223372036854775807) (hkc:c<=C) (hkc':c'<=c) :
  Calls Tryz.prog 92 #[.pointer (some ⟨bp,0,none⟩),.slice a n c,.slice a' n' c'] w fun e w' => (∃ x y,e=.returned (.agg #[.int .u32 x,.int .u32 y]))/\Kp Nil w w':=by
 have hs:=D.small;go_enter Tryz.func92,Tryz.ntmps92;go_wp2_with fail
 refine (offset_c D A a C n c bp _ (by exact (World.cell?_of_block (a:=⟨bp,1,none⟩) (heap_alloc_old w _ hlt)).trans h1) hC hkc).mono ?_;rintro e w1 ⟨rfl,rfl⟩;go_wp2_with fail
 refine (offset_c D A a' C n' c' bp _ (by exact (World.cell?_of_block (a:=⟨bp,1,none⟩) (heap_alloc_old w _ hlt)).trans h1) hC (by omega)).mono ?_;rintro e w1 ⟨rfl,rfl⟩;go_wp2_with fail
 refine bodyPost_ret (v:=.agg #[.int .u32 (((C:Int) - c) % 4294967296),.int .u32 (((C:Int) - c' - ((C:Int) - c)) % 4294967296)]) (by simp [results,Tryz.results92,go_sem]) rfl ?_;exact ⟨⟨_,_,rfl⟩,(Kp.refl _ _).alloc _⟩
theorem hl1_c (D:Doc) (A a:Option Addr) (C k n c:Nat) (w:World) (hC1:D.n<=C) (hv:VW D A C k a n c) :
  Calls Tryz.prog 90 #[.slice a n c] w fun e w' => (∃ m,e=.returned (.slice a m c)/\m<=c)/\w'=w:=by
 have hs:=D.small;have hln:=qql hv.len;have hln':=qql hv.len.symm;have hcp:=qql hv.cap;have hcp':=qql hv.cap.symm;go_enter Tryz.func90,Tryz.ntmps90;rcases Nat.eq_zero_or_pos n with h0 | h0
 ·obtain rfl:=h0;go_wp2_with fail
  go_ret;exact ⟨⟨0,rfl,by omega⟩,rfl⟩
 ·have hrunt:=upto_ a n c 1 1 (by omega) (by omega);go_wp2_with fail
  go_ret;exact ⟨⟨1,rfl,by omega⟩,rfl⟩
theorem get_sub (D:Doc) (a m i:Nat) (hm:¬ i<m->D.n<=a+i):((⟨(D.sub a m).toArray⟩:ByteArray).get! i).toNat=D.c (a+i):=by
 show ((D.sub a m).toArray.getD i default).toNat=_;by_cases h:i<m
 ·have hl:i<(D.sub a m).length:=by rw [Doc.sub_length];exact h
  have e:(D.sub a m).toArray.getD i default=(D.sub a m)[i]:=by simp [Array.getD,Doc.sub_length,h]
  rw [e,Doc.sub_get,Doc.toNat_ofNat]
 ·have e:(D.sub a m).toArray.getD i default=default:=by simp [Array.getD,Doc.sub_length,h]
  rw [e,D.out _ (hm h)]
  rfl
theorem map_inj_bytes:∀ (l k:List Nat),(∀ x ∈ l,x<256)->(∀ x ∈ k,x<256)->((l.map UInt8.ofNat == k.map UInt8.ofNat)=(l == k))
 | [],[],_,_ => rfl
 | [],_ :: _,_,_ => rfl
 | _ :: _,[],_,_ => rfl
 | x :: l,y :: k,hl,hk => by
  have ih:=map_inj_bytes l k (fun z hz => hl z (by simp [hz])) (fun z hz => hk z (by simp [hz]));have hx:=hl x (by simp);have hy:=hk y (by simp);simp only [List.map_cons,List.cons_beq_cons,ih]
  congr 1
  rw [Bool.eq_iff_iff,beq_iff_eq,beq_iff_eq];constructor
  ·intro h;have:=congrArg UInt8.toNat h;rw [UInt8.toNat_ofNat',UInt8.toNat_ofNat'] at this;simp only [Nat.reducePow] at this;omega
  ·intro h;rw [h]
theorem encN_lt (r:Nat) (h:validN r):∀ x ∈ encN r,x<256:=by
 unfold validN at h;unfold encN;intro x hx;split at hx
 ·simp at hx;omega
 split at hx
 ·simp at hx;omega
 split at hx
 ·simp at hx;omega
 ·simp at hx;omega
theorem sign_facts (D:Doc) (a m:Nat) (ha:a<D.n) (hm:m=min D.n (a+4) - a) (h128:128<=D.c a) :
  let S:ByteArray:=⟨(D.sub a m).toArray⟩
  let E:=Utf8.encode ((Utf8.decode S 0).1:Int)
  (sg D a=0->decide ((S.size:Int)<(E.size:Int))=true\/(decide ((S.size:Int)<(E.size:Int))=false/\((S.extract 0 E.size).toList == E.toList)=false)) /\
  (sg D a ≠ 0->E.size=sg D a/\decide ((S.size:Int)<(E.size:Int))=false/\((S.extract 0 E.size).toList == E.toList)=true):=by
 intro S E;have hsz:S.size=m:=by show (D.sub a m).toArray.size=m;simp [Doc.sub_length]
 have hlt0:=D.lt a;have hlt1:=D.lt (a+1);have hlt2:=D.lt (a+2);have hlt3:=D.lt (a+3);have hr:(Utf8.decode S 0).1=(Lib.decodeN m (D.c a) (D.c (a+1)) (D.c (a+2)) (D.c (a+3))).1:=by
  rw [Lib.decode_at,hsz,Nat.sub_zero];have g0:=get_sub D a m 0 (by omega);have g1:=get_sub D a m 1 (by omega);have g2:=get_sub D a m 2 (by omega);have g3:=get_sub D a m 3 (by omega);simp only [Nat.add_zero,Nat.zero_add] at g0 g1 g2 g3 ⊢;rw [g0,g1,g2,g3]
 have hval:=decode_valid m (D.c a) (D.c (a+1)) (D.c (a+2)) (D.c (a+3)) hlt0 hlt1 hlt2 hlt3;have hE:E=⟨((encN (Lib.decodeN m (D.c a) (D.c (a+1)) (D.c (a+2)) (D.c (a+3))).1).map UInt8.ofNat).toArray⟩:=by
  show Utf8.encode _=_;rw [hr,encode_eq _ hval]
 generalize he:encN (Lib.decodeN m (D.c a) (D.c (a+1)) (D.c (a+2)) (D.c (a+3))).1=e at hE;have hel:∀ x ∈ e,x<256:=by rw [<- he];exact encN_lt _ hval
 have hEs:E.size=e.length:=by rw [hE];show (List.toArray _).size=_;simp
 have hSl:D.sub a m=(([D.c a,D.c (a+1),D.c (a+2),D.c (a+3)].take m).map UInt8.ofNat):=by
  obtain rfl | rfl | rfl | rfl:m=1\/m=2\/m=3\/m=4:=by omega
  all_goals simp [Doc.sub_succ,Doc.sub_zero]
 have hag:(decide ((S.size:Int)<(E.size:Int))=false/\((S.extract 0 E.size).toList == E.toList)=true) ↔ again m (D.c a) (D.c (a+1)) (D.c (a+2)) (D.c (a+3)) e=true:=by
  have e1:(S.extract 0 E.size).toList=(([D.c a,D.c (a+1),D.c (a+2),D.c (a+3)].take m).take e.length).map UInt8.ofNat:=by
   rw [ByteArray.toList_eq,ByteArray.data_extract,Array.toList_extract];show ((D.sub a m).toArray.toList.drop 0).take (E.size - 0)=_;rw [hEs,hSl];simp [List.map_take]
  have e2:E.toList=e.map UInt8.ofNat:=by rw [hE,ByteArray.toList_mk]
  rw [e1,e2,map_inj_bytes _ _ (by
   intro x hx
   have:=List.mem_of_mem_take (List.mem_of_mem_take hx)
   simp at this
   omega) hel]
  unfold again;rw [hsz,hEs];simp
 have hout1:m<=1->D.c (a+1)=0:=fun h => D.out _ (by omega)
 have hout2:m<=2->D.c (a+2)=0:=fun h => D.out _ (by omega)
 have hout3:m<=3->D.c (a+3)=0:=fun h => D.out _ (by omega)
 constructor
 ·intro h0;have hb:=again_bad m (D.c a) (D.c (a+1)) (D.c (a+2)) (D.c (a+3)) (by omega) (by omega) h128 hlt0 hlt1 hlt2 hlt3 hout1 hout2 hout3 h0;rw [he] at hb;rw [hb] at hag;cases h1:decide ((S.size:Int)<(E.size:Int)) with
  | true => exact .inl rfl
  | false =>
   right;refine ⟨rfl,?_⟩;cases h2:((S.extract 0 E.size).toList == E.toList) with
   | false => rfl
   | true => exact absurd (hag.1 ⟨h1,h2⟩) (by simp)
 ·intro h0;have hb:=again_good m (D.c a) (D.c (a+1)) (D.c (a+2)) (D.c (a+3)) (by omega) (by omega) h128 hlt0 hlt1 hlt2 hlt3 hout1 hout2 hout3 h0;rw [he] at hb;exact ⟨by rw [hEs,hb.2];rfl,hag.2 hb.1⟩
theorem enc_size (r:Int):1<=(Utf8.encode r).size/\(Utf8.encode r).size<=4:=by
 unfold Utf8.encode;simp only;split
 ·split
  ·exact ⟨by show 1<=1;omega,by show 1<=4;omega⟩
  ·split
   ·exact ⟨by show 1<=2;omega,by show 2<=4;omega⟩
   ·split
    ·exact ⟨by show 1<=3;omega,by show 3<=4;omega⟩
    ·exact ⟨by show 1<=4;omega,by show 4<=4;omega⟩
 ·split
  ·exact ⟨by show 1<=1;omega,by show 1<=4;omega⟩
  ·split
   ·exact ⟨by show 1<=2;omega,by show 2<=4;omega⟩
   ·split
    ·exact ⟨by show 1<=3;omega,by show 3<=4;omega⟩
    ·exact ⟨by show 1<=4;omega,by show 4<=4;omega⟩
theorem sign_c (D:Doc) (bp:Nat) (A:Option Addr) (C:Nat) (at_ st:Nat) (w:World) (hp:PS D bp A C w at_ st) (hat:at_<=1500000000) :
  Calls Tryz.prog 51 #[.pointer (some ⟨bp,0,none⟩)] w fun e w' => e=.returned (.tuple #[.int .i64 ((if sg D at_=0 then 1 else sg D at_:Nat)),.bool (decide (sg D at_ ≠ 0))])/\Kp Nil w w':=by
 have h0:=hp.c0;have h1:=hp.c1;have hs:=D.small;have hC1:=hp.doc.1;have hC2:=hp.doc.2.1;have hcl:=D.lt at_;by_cases h128:D.c at_<128
 ·by_cases hg:D.c at_=9\/32<=D.c at_/\D.c at_<127
  ·have hsg:sg D at_=1:=(by unfold sg sgN;rw [if_pos hg]);rw [hsg];have HP:=qqh hp;clear hp hsg;rcases hg with hg | hg
   all_goals
    go_enter Tryz.func51,Tryz.ntmps51;go_wp2_with (go_at_call 20;refine (peek_c D bp A C at_ st 0 _ HP.out (by omega) (by omega) (by omega)).mono ?_;rintro e w1 ⟨rfl,nq,rfl⟩;simp only [Int.toNat_zero,Nat.add_zero])
    all_goals (go_ret2;exact ⟨rfl,(Kp.refl _ _).drewN _⟩)
  ·have hsg:sg D at_=0:=(by unfold sg sgN;rw [if_neg hg,if_pos (by omega)]);rw [hsg];have HP:=qqh hp;clear hp hsg;have e1:((D.c at_:Int) == 9)=false:=qqn (by omega);go_enter Tryz.func51,Tryz.ntmps51;go_wp2_with (go_at_call 20;refine (peek_c D bp A C at_ st 0 _ HP.out (by omega) (by omega) (by omega)).mono ?_;rintro e w1 ⟨rfl,nq,rfl⟩;simp only [Int.toNat_zero,Nat.add_zero])
   all_goals (go_ret2;exact ⟨rfl,(Kp.refl _ _).drewN _⟩)
 ·have hin:=Doc.in_of (D:=D) (k:=at_) (by omega);obtain ⟨m,hm⟩:∃ m,m=min D.n (at_+4) - at_:=⟨_,rfl⟩;have hF:=sign_facts D at_ m hin hm (by omega);obtain ⟨S,hS⟩:∃ S:ByteArray,S=⟨(D.sub at_ m).toArray⟩:=⟨_,rfl⟩;have hSs:S.size=m:=by rw [hS];show (List.toArray _).size=_;simp [Doc.sub_length]
  rw [<- hS] at hF;dsimp only at hF;obtain ⟨bd,o,rfl,hc⟩:=hp.byte hin;have hcv:∀ (nq q:Nat),(convert 22 9 (.slice (some ⟨bd,o+at_,none⟩) m q)).run Tryz.prog (w.drewN nq)=.ok (.string S) (w.drewN nq):=fun nq q => by rw [hS];exact conv_doc D bd o at_ m q _ hc (by omega)
  have HP:=qqh hp;have e1:((D.c at_:Int) == 9)=false:=qqn (by omega);by_cases h4:D.n<=at_+4
  ·obtain rfl:m=D.n - at_:=(by omega);have h4':¬ ((at_:Int)+4<(D.n:Int)):=(by omega);have hne:¬ C=at_:=(by omega);have HF:=qqh hF;have hS0:0<S.size:=(by omega);have hnx:∀ (nq:Nat) (ty:TypeId),(Instr.next (.pointer (some ⟨w.heap.size,0,none⟩)) true ty).run Tryz.prog ((w.drewN nq).iter S 0)=.ok (.tuple #[.bool true,.int .i64 ((0:Nat):Int),.int .i32 (Utf8.decode S 0).1]) ((w.drewN nq).iter S (0+(Utf8.decode S 0).2)):=fun nq ty => run_next_any (w.drewN nq) S 0 ty hS0
   have hEn:=enc_size ((Utf8.decode S 0).1:Int);generalize (Utf8.decode S 0).1=r at *;have hEr:∀ (nq q:Nat),(convert 21 9 (.int .i32 (r:Int))).run Tryz.prog ((w.drewN nq).iter S q)=.ok (.string (Utf8.encode r)) ((w.drewN nq).iter S q):=fun nq q => run_convert_int_string _ 21 9 .i32 r (by rw [Tryz.underlying21];rfl) Tryz.underlying9
   generalize Utf8.encode (r:Int)=E at *;clear hF hS hm hc hp;by_cases hsg:sg D at_=0
   ·rcases HF.out.1 hsg with hF | ⟨hF1,hF2⟩
    ·have hF:=of_decide_eq_true hF;rw [hSs] at hF;rw [hsg];have Hsg:=qqh hsg;clear hsg;go_enter Tryz.func51,Tryz.ntmps51;go_wp2_with (go_at_call 20;refine (peek_c D bp _ C at_ st 0 _ HP.out (by omega) (by omega) (by omega)).mono ?_;rintro e w1 ⟨rfl,nq,rfl⟩;simp only [Int.toNat_zero,Nat.add_zero])
     go_quiet (fail)
     go_wp2
     refine wp_loop_once ?_
     go_wp2
     all_goals first | (exfalso;omega) | (go_ret2;exact ⟨rfl,((Kp.refl _ _).drewN _).alloc _⟩)
    ·have hF1:=of_decide_eq_false hF1;rw [hSs] at hF1;rw [hsg];have Hsg:=qqh hsg;clear hsg;go_enter Tryz.func51,Tryz.ntmps51;go_wp2_with (go_at_call 20;refine (peek_c D bp _ C at_ st 0 _ HP.out (by omega) (by omega) (by omega)).mono ?_;rintro e w1 ⟨rfl,nq,rfl⟩;simp only [Int.toNat_zero,Nat.add_zero])
     go_quiet (fail)
     go_wp2
     refine wp_loop_once ?_
     go_wp2
     all_goals first | (exfalso;omega) | (go_ret2;exact ⟨rfl,((Kp.refl _ _).drewN _).alloc _⟩)
   ·obtain ⟨hE,hF1,hF2⟩:=HF.out.2 hsg;have hF1:=of_decide_eq_false hF1;rw [hSs] at hF1;have hE2:Hid ((if sg D at_=0 then 1 else sg D at_)=E.size):=(by show _=_;rw [if_neg hsg,hE]);have hE3:Hid (decide (sg D at_ ≠ 0)=true):=(by show _=_;simp [hsg]);rw [hE2.out,hE3.out];clear hE hsg;go_enter Tryz.func51,Tryz.ntmps51;go_wp2_with (go_at_call 20;refine (peek_c D bp _ C at_ st 0 _ HP.out (by omega) (by omega) (by omega)).mono ?_;rintro e w1 ⟨rfl,nq,rfl⟩;simp only [Int.toNat_zero,Nat.add_zero])
    go_quiet (fail)
    go_wp2
    refine wp_loop_once ?_
    go_wp2
    all_goals first | (exfalso;omega) | (go_ret2;exact ⟨rfl,((Kp.refl _ _).drewN _).alloc _⟩)
  ·obtain rfl:m=4:=(by omega);have h4':((at_:Int)+4<(D.n:Int)):=(by omega);have hne:¬ C=at_:=(by omega);have HF:=qqh hF;have hS0:0<S.size:=(by omega);have hnx:∀ (nq:Nat) (ty:TypeId),(Instr.next (.pointer (some ⟨w.heap.size,0,none⟩)) true ty).run Tryz.prog ((w.drewN nq).iter S 0)=.ok (.tuple #[.bool true,.int .i64 ((0:Nat):Int),.int .i32 (Utf8.decode S 0).1]) ((w.drewN nq).iter S (0+(Utf8.decode S 0).2)):=fun nq ty => run_next_any (w.drewN nq) S 0 ty hS0
   have hEn:=enc_size ((Utf8.decode S 0).1:Int);generalize (Utf8.decode S 0).1=r at *;have hEr:∀ (nq q:Nat),(convert 21 9 (.int .i32 (r:Int))).run Tryz.prog ((w.drewN nq).iter S q)=.ok (.string (Utf8.encode r)) ((w.drewN nq).iter S q):=fun nq q => run_convert_int_string _ 21 9 .i32 r (by rw [Tryz.underlying21];rfl) Tryz.underlying9
   generalize Utf8.encode (r:Int)=E at *;clear hF hS hm hc hp;by_cases hsg:sg D at_=0
   ·rcases HF.out.1 hsg with hF | ⟨hF1,hF2⟩
    ·have hF:=of_decide_eq_true hF;rw [hSs] at hF;exfalso;omega
    ·have hF1:=of_decide_eq_false hF1;rw [hSs] at hF1;rw [hsg];have Hsg:=qqh hsg;clear hsg;go_enter Tryz.func51,Tryz.ntmps51;go_wp2_with (go_at_call 20;refine (peek_c D bp _ C at_ st 0 _ HP.out (by omega) (by omega) (by omega)).mono ?_;rintro e w1 ⟨rfl,nq,rfl⟩;simp only [Int.toNat_zero,Nat.add_zero])
     go_quiet (fail)
     go_wp2
     refine wp_loop_once ?_
     go_wp2
     all_goals first | (exfalso;omega) | (go_ret2;exact ⟨rfl,((Kp.refl _ _).drewN _).alloc _⟩)
   ·obtain ⟨hE,hF1,hF2⟩:=HF.out.2 hsg;have hF1:=of_decide_eq_false hF1;rw [hSs] at hF1;have hE2:Hid ((if sg D at_=0 then 1 else sg D at_)=E.size):=(by show _=_;rw [if_neg hsg,hE]);have hE3:Hid (decide (sg D at_ ≠ 0)=true):=(by show _=_;simp [hsg]);rw [hE2.out,hE3.out];clear hE hsg;go_enter Tryz.func51,Tryz.ntmps51;go_wp2_with (go_at_call 20;refine (peek_c D bp _ C at_ st 0 _ HP.out (by omega) (by omega) (by omega)).mono ?_;rintro e w1 ⟨rfl,nq,rfl⟩;simp only [Int.toNat_zero,Nat.add_zero])
    go_quiet (fail)
    go_wp2
    refine wp_loop_once ?_
    go_wp2
    all_goals first | (exfalso;omega) | (go_ret2;exact ⟨rfl,((Kp.refl _ _).drewN _).alloc _⟩)
theorem PS.kpNil {D:Doc} {bp:Nat} {A:Option Addr} {C:Nat} {w w':World} {at_ st:Nat} (h:PS D bp A C w at_ st) (k:Kp Nil w w'):PS D bp A C w' at_ st:=h.kp k (fun x => x) (fun _ _ x => x)
theorem Kp.nil {S:Nat->Prop} {a b c:World} (h:Kp S a b) (k:Kp Nil b c):Kp S a c:=h.then k (fun _ x => x.elim)
theorem nlen_in {D:Doc} {k:Nat} (h:nlen D k ≠ 0):k+nlen D k<=D.n:=by
 unfold nlen at h ⊢;by_cases c1:D.c k=10
 ·rw [if_pos c1];have:=Doc.in_of (D:=D) (k:=k) (by omega);omega
 ·rw [if_neg c1] at h ⊢;by_cases c2:D.c k=13/\D.c (k+1)=10
  ·rw [if_pos c2];have:=Doc.in_of (D:=D) (k:=k+1) (by omega);omega
  ·rw [if_neg c2] at h;exact absurd rfl h
theorem nlen_zero {D:Doc} {k:Nat}:nlen D k=0 ↔ ¬ D.c k=10/\¬ (D.c k=13/\D.c (k+1)=10):=by
 unfold nlen;repeat' split
 all_goals simp_all
theorem comment_c (D:Doc) (bp:Nat) (A:Option Addr) (C:Nat) (at_ st:Nat) (w:World) (hp:PS D bp A C w at_ st) (hat:at_<=1500000000) :
  Calls Tryz.prog 25 #[.pointer (some ⟨bp,0,none⟩)] w fun e w' => e=.returned (.tuple #[])/\PS D bp A C w' ((cmt D at_).pos D) ((cmt D at_).st st)/\Kp (Only bp) w w':=by
 have hs:=D.small;have HP:=qqh hp;clear hp;by_cases h35:D.c at_=35
 ·have hcm:Hid (cmt D at_=cmtRun D at_):=by show _=_;unfold cmt;rw [if_pos h35]
  have hin:=Doc.in_of (D:=D) (k:=at_) (by omega);have e35:((D.c at_:Int) != 35)=false:=by rw [bne_eq_false_iff_eq];omega
  clear h35;go_enter Tryz.func25,Tryz.ntmps25;go_wp2_with (go_at_call 20;refine (peek_c D bp A C at_ st 0 _ HP.out (by omega) (by omega) (by omega)).mono ?_;rintro e w1 ⟨rfl,nq,rfl⟩;simp only [Int.toNat_zero,Nat.add_zero])
  go_loopw [2] (fun _ wr => ∃ k,k<=D.n/\Hid (cmt D at_=cmtRun D k)/\Hid (PS D bp A C wr k st)/\Hid (Kp (Only bp) w wr)) (fun _ wr => left D bp wr)
  case atStart => exact ⟨at_,by omega,hcm,HP.out.drewN _,(Kp.refl _ _).drewN _⟩
  case round =>
   obtain ⟨k,hk,hd,hp,hkp⟩:=hrel;have h0:=hp.out.c0;have h1:=hp.out.c1;have hcl:=D.lt k;by_cases hkn:k<D.n
   ·have hkn':(k:Int)<(D.n:Int):=(by omega);by_cases c1:D.c k=10
    ·have e1:hasB D k [10]=true:=(by rw [has_nl];simp [c1]);have hf:Hid (cmt D at_=.good () k):=(by show _=_;rw [hd.out,cmtRun,if_neg (by omega),if_pos (by unfold nlen;rw [if_pos c1];omega)]);go_wp2_with fail
     go_quiet ((go_at_call 22;exact Calls.quiet_of (has_c D bp A C k st _ _ (hp.out.drewN _) (by omega) (by simp) (by simp))))
     go_wp2
     go_end0
     rw [hf.out];exact ⟨rfl,hp.out.drewN _,hkp.out.drewN _⟩
    ·have e1:hasB D k [10]=false:=(by rw [has_nl];simp [c1]);by_cases c2:D.c k=13/\D.c (k+1)=10
     ·have e2:hasB D k [13,10]=true:=(by rw [has_crnl];simp [c2]);have hf:Hid (cmt D at_=.good () k):=(by show _=_;rw [hd.out,cmtRun,if_neg (by omega),if_pos (by unfold nlen;rw [if_neg c1,if_pos c2];omega)]);clear c2;go_wp2_with fail
      go_quiet ((go_at_call 22;exact Calls.quiet_of (has_c D bp A C k st _ _ (hp.out.drewN _) (by omega) (by simp) (by simp))))
      go_wp2
      go_end0
      rw [hf.out];exact ⟨rfl,hp.out.drewN _,hkp.out.drewN _⟩
     ·have e2:hasB D k [13,10]=false:=(by rw [has_crnl];simp [c2]);have hnl:=nlen_zero.2 ⟨c1,c2⟩;clear c2;by_cases hsg:sg D k=0
      ·have hf:Hid (cmt D at_=.bad):=(by show _=_;rw [hd.out,cmtRun,if_neg (by omega),if_neg (by omega),if_pos hsg]);clear hnl;go_wp2_with fail
       go_quiet ((go_at_call 22;exact Calls.quiet_of (has_c D bp A C k st _ _ (hp.out.drewN _) (by omega) (by simp) (by simp))))
       go_wp2_with fail
       refine (sign_c D bp A C k st _ (hp.out.drewN _) (by omega)).mono ?_;rintro e w1 ⟨rfl,hk1⟩;have hk1:=qqh hk1;go_wp2_with fail
       refine (fail_c D bp A C k st _ ((hp.out.drewN _).kpNil hk1.out)).mono ?_;rintro e w2 ⟨rfl,hp2,hk2⟩;have hp2:=qqh hp2;have hk2:=qqh hk2
       go_wp2
       refine bodyPost_ret (results_none rfl _ _ _) rfl ?_;rw [hf.out];exact ⟨rfl,hp2.out,((hkp.out.drewN _).nil hk1.out).trans hk2.out⟩
      ·have hin:=sg_in D k hsg;have hf:Hid (cmt D at_=cmtRun D (k+sg D k)):=(by show _=_;rw [hd.out,cmtRun,if_neg (by omega),if_neg (by omega),if_neg hsg]);have hle:=sg_le D k;clear hnl;go_wp2_with fail
       go_quiet ((go_at_call 22;exact Calls.quiet_of (has_c D bp A C k st _ _ (hp.out.drewN _) (by omega) (by simp) (by simp))))
       go_wp2_with fail
       refine (sign_c D bp A C k st _ (hp.out.drewN _) (by omega)).mono ?_;rintro e w1 ⟨rfl,hk1⟩;have hp1:=qqh ((hp.out.drewN _).kpNil hk1);have hk1:=qqh hk1;have h1':=hp1.out.c1;have f1':=hp1.out.f 1
       go_wp2
       go_roundw
       case rel => exact ⟨k+sg D k,by omega,hf,PS.setAt hp1.out _ (k+sg D k) (by omega),Kp.putOnly ((hkp.out.drewN _).nil hk1.out) _⟩
       case measure => rw [hp.out.left,(PS.setAt hp1.out _ (k+sg D k) (by omega)).left];omega
   ·have hkn':decide ((k:Int)<(D.n:Int))=false:=qqf (by omega);have hf:Hid (cmt D at_=.good () k):=(by show _=_;rw [hd.out,cmtRun,if_pos (by omega)]);go_wp2_with fail
    go_quiet (fail)
    go_wp2
    go_end0
    rw [hf.out];exact ⟨rfl,hp.out.drewN _,hkp.out.drewN _⟩
 ·have hcm:Hid (cmt D at_=.good () at_):=by show _=_;unfold cmt;rw [if_neg h35]
  have e1:((D.c at_:Int) != 35)=true:=by rw [bne_iff_ne];omega
  go_enter Tryz.func25,Tryz.ntmps25;go_wp2_with (go_at_call 20;refine (peek_c D bp A C at_ st 0 _ HP.out (by omega) (by omega) (by omega)).mono ?_;rintro e w1 ⟨rfl,nq,rfl⟩;simp only [Int.toNat_zero,Nat.add_zero])
  refine bodyPost_ret (results_none rfl _ _ _) rfl ?_;rw [hcm.out];exact ⟨rfl,HP.out.drewN _,(Kp.refl _ _).drewN _⟩
theorem space_c (D:Doc) (bp:Nat) (A:Option Addr) (C:Nat) (at_ st:Nat) (w:World) (hp:PS D bp A C w at_ st) (hat:at_<=1500000000) :
  Calls Tryz.prog 69 #[.pointer (some ⟨bp,0,none⟩)] w fun e w' => e=.returned (.tuple #[])/\PS D bp A C w' ((spc D at_).pos D) ((spc D at_).st st)/\Kp (Only bp) w w':=by
 have hs:=D.small;have HP:=qqh hp;clear hp;go_enter Tryz.func69,Tryz.ntmps69;go_wp2_with fail
 go_loopw [2] (fun _ wr => ∃ k,(k=at_\/k<=D.n)/\Hid (spc D at_=spc D k)/\Hid (PS D bp A C wr k st)/\Hid (Kp (Only bp) w wr)) (fun _ wr => left D bp wr)
 case atStart => exact ⟨at_,by omega,rfl,HP.out,Kp.refl _ _⟩
 case round =>
  obtain ⟨k,hk,hd,hp,hkp⟩:=hrel;have hwle:=wsEnd_le D k;have hwge:=wsEnd_ge D k;go_wp2_with fail
  refine (blanks_c D bp A C k st _ hp.out (by omega)).mono ?_;rintro e w1 ⟨rfl,hp1,hk1⟩;have hp1:=qqh hp1;have hk1:=qqh hk1;go_wp2_with fail
  refine (comment_c D bp A C (wsEnd D k) st _ hp1.out (by omega)).mono ?_;rintro e w2 ⟨rfl,hp2,hk2⟩;have hk2:=qqh hk2;have HC:=qqh (show True/\cmt D (wsEnd D k)=cmt D (wsEnd D k) from ⟨trivial,rfl⟩);generalize hr:cmt D (wsEnd D k)=r at hp2 HC;have hr:=qqh hr;cases r with
  | good u k2 =>
   have hp2:=qqh hp2;have hf:Hid (spc D k=if nlen D k2=0 then .good () k2 else spc D (k2+nlen D k2)):=by
    show _=_;rw [spc];split
    ·rename_i h;rw [hr.out] at h;injection h with _ h;subst h;rfl
    ·rename_i h;exact absurd hr.out (h u k2)
   have hge:=cmt_ge D _ _ hr.out;have hle:=cmt_le D _ _ hr.out;go_wp2_with fail
   refine (line_c D bp A C k2 st _ hp2.out (by omega)).mono ?_;rintro e w3 ⟨rfl,hp3,hk3⟩;have hp3:=qqh hp3;have hk3:=qqh hk3;by_cases hn:nlen D k2=0
   ·have hp3':Hid (PS D bp A C w3 k2 st):=(by have:=hp3.out;rw [hn] at this;exact this);have hf2:Hid (spc D at_=.good () k2):=(by show _=_;rw [hd.out,hf.out,if_pos hn]);go_wp2_with fail
    refine bodyPost_ret (results_none rfl _ _ _) rfl ?_;rw [hf2.out];exact ⟨rfl,hp3'.out,((hkp.out.trans hk1.out).trans hk2.out).trans hk3.out⟩
   ·have hf2:Hid (spc D at_=spc D (k2+nlen D k2)):=(by show _=_;rw [hd.out,hf.out,if_neg hn]);have hin:k2+nlen D k2<=D.n:=nlen_in hn;go_wp2_with fail
    go_roundw
    case rel => exact ⟨k2+nlen D k2,by omega,hf2,hp3,((hkp.out.trans hk1.out).trans hk2.out).trans hk3.out⟩
    case measure => rw [hp.out.left,hp3.out.left];omega
  | bad =>
   have hp2:=qqh hp2;have hf:Hid (spc D at_=.bad):=by
    show _=_;rw [hd.out,spc];split
    ·rename_i h;rw [hr.out] at h;cases h
    ·rfl
   have hn:nlen D D.n=0:=nlen_zero.2 ⟨by rw [D.out _ (qqr _)];omega,by rw [D.out _ (qqr _)];omega⟩;go_wp2_with fail
   refine (line_c D bp A C D.n (failSt st) _ hp2.out (by omega)).mono ?_;rintro e w3 ⟨rfl,hp3,hk3⟩;have hp3':Hid (PS D bp A C w3 D.n (failSt st)):=(by have:=hp3;rw [hn] at this;exact this);have hk3:=qqh hk3;clear hp3;go_wp2_with fail
   refine bodyPost_ret (results_none rfl _ _ _) rfl ?_;rw [hf.out];exact ⟨rfl,hp3'.out,((hkp.out.trans hk1.out).trans hk2.out).trans hk3.out⟩
  | opn => exact absurd hr.out (cmt_not_opn D _)
theorem peek_p (D:Doc) (bp:Nat) (A:Option Addr) (C:Nat) (at_ st p:Nat) (k:Int) (w:World) (hp:PS D bp A C w at_ st) (hat:at_<=2147483648) (hk:0<=k) (hk2:k<=2147483648) (hpp:(at_:Int)+k=(p:Int)) :
  Calls Tryz.prog 20 #[.pointer (some ⟨bp,0,none⟩),.int .i64 k] w fun e w' => e=.returned (.int .u8 (D.c p))/\∃ nq,w'=w.drewN nq:=by
 obtain rfl:p=at_+k.toNat:=by omega
 exact peek_c D bp A C at_ st k w hp hat hk hk2
theorem digits_p (D:Doc) (bp:Nat) (A:Option Addr) (C:Nat) (at_ st p b:Nat) (n base:Int) (w:World) (hp:PS D bp A C w at_ st) (hat:at_<=1500000000) (hn:0<=n) (hn2:n<=1500000000) (hb:base=(b:Int)) (hb2:b<=16) (hpp:(at_:Int)+n=(p:Int)) :
  Calls Tryz.prog 86 #[.pointer (some ⟨bp,0,none⟩),.int .i64 n,.int .i64 base] w fun e w' => e=.returned (.int .i64 (dgN D b p:Nat))/\∃ nq,w'=w.drewN nq:=by
 obtain rfl:p=at_+n.toNat:=by omega
 subst hb;exact digits_c D bp A C at_ st n b w hp hat hn hn2 (by omega) (by omega)
theorem two_p (D:Doc) (bp:Nat) (A:Option Addr) (C:Nat) (at_ st p f':Nat) (n f:Int) (w:World) (hp:PS D bp A C w at_ st) (hat:at_<=1500000000) (hn:0<=n) (hn2:n<=1500000000) (hf:f=(f':Int)) (hf2:f'<=4) (hpp:(at_:Int)+n=(p:Int)) :
  Calls Tryz.prog 71 #[.pointer (some ⟨bp,0,none⟩),.int .i64 n,.int .i64 f] w fun e w' => e=.returned (.int .i64 (twoRun D p 0 f'))/\∃ nq,w'=w.drewN nq:=by
 obtain rfl:p=at_+n.toNat:=by omega
 subst hf;exact two_c D bp A C at_ st n f' w hp hat hn hn2 (by omega) (by omega)
theorem grp_le (D:Doc) (b k:Nat):grp D b k<=D.n - k:=by
 induction hm:D.n - k using Nat.strongRecOn generalizing k with
 | _ m ih =>
  rw [grp];have:=dgN_le D b k;split
  ·omega
  split
  ·rename_i h0 h1;have hin:=Doc.in_of (D:=D) (k:=k+dgN D b k) (by omega);have:=ih (D.n - (k+dgN D b k+1)) (by omega) (k+dgN D b k+1) rfl;split <;> omega
  ·omega
theorem grouped_c (D:Doc) (bp:Nat) (A:Option Addr) (C:Nat) (at_ st:Nat) (n base:Int) (w:World) (hp:PS D bp A C w at_ st) (hat:at_<=1073741900) (hn:0<=n) (hn2:n<=1073741900) (hb:0<=base) (hb2:base<=16) :
  Calls Tryz.prog 75 #[.pointer (some ⟨bp,0,none⟩),.int .i64 n,.int .i64 base] w fun e w' => e=.returned (.int .i64 (grp D base.toNat (at_+n.toNat):Nat))/\∃ nq,w'=w.drewN nq:=by
 have hs:=D.small;have HP:=qqh hp;clear hp;obtain ⟨n,rfl⟩:=Int.eq_ofNat_of_zero_le hn;obtain ⟨b,rfl⟩:=Int.eq_ofNat_of_zero_le hb;rw [Int.toNat_natCast,Int.toNat_natCast];go_enter Tryz.func75,Tryz.ntmps75;go_wp2_with fail
 go_loopw [1] (fun t wr => ∃ k nq:Nat,t=.int .i64 (n+k:Nat)/\(k=0\/at_+n+k<=D.n)/\Hid (grp D b (at_+n)=if k=0 then grp D b (at_+n) else if grp D b (at_+n+k)=0 then 0 else k+grp D b (at_+n+k))/\Hid (wr=w.drewN nq)) (fun t _ => D.n+1+n - (intOf t).toNat)
 case atStart => exact ⟨0,0,rfl,by omega,by show _=_;simp,by show _=_;rfl⟩
 case round =>
  obtain ⟨k,nq,rfl,hk,hd,hw⟩:=hrel;obtain rfl:=hw.out;clear hw;have hx:Hid (at_+(n+k)=at_+n+k):=by show _=_;omega
  have hdl:=dgN_le D b (at_+n+k);obtain ⟨m,hm⟩:∃ m,dgN D b (at_+n+k)=m:=⟨_,rfl⟩;have hg:Hid (grp D b (at_+n+k)=if dgN D b (at_+n+k)=0 then 0 else if D.c (at_+n+k+dgN D b (at_+n+k))=95 then (if grp D b (at_+n+k+dgN D b (at_+n+k)+1)=0 then 0 else dgN D b (at_+n+k)+1+grp D b (at_+n+k+dgN D b (at_+n+k)+1)) else dgN D b (at_+n+k)):=by
   show _=_;rw [grp];simp only [dite_eq_ite]
  rw [hm] at hdl hg;have HM:=qqh hm;clear hm;go_wp2_with fail
  refine (digits_p D bp A C at_ st (at_+n+k) b _ _ _ (by exact HP.out.drewN _) (by omega) (by omega) (by omega) rfl (by omega) (by omega)).mono ?_;rintro e w1 ⟨rfl,nq,rfl⟩;rw [HM.out];by_cases h0:m=0
  ·subst h0;have hf:Hid (grp D b (at_+n)=0):=by
    show _=_;have h1:grp D b (at_+n+k)=0:=(by rw [hg.out];rfl);have:=hd.out;by_cases hk0:k=0
    ·subst hk0;exact h1
    ·rw [if_neg hk0,if_pos h1] at this;exact this
   go_wp2_with fail
   go_ret;rw [hf.out];exact ⟨rfl,_,rfl⟩
  ·have e0:((m:Int) == 0)=false:=qqn (by omega);go_wp2_with fail
   refine (peek_p D bp A C at_ st (at_+n+k+m) _ _ (by exact HP.out.drewN _) (by omega) (by omega) (by omega) (by omega)).mono ?_;rintro e w1 ⟨rfl,nq,rfl⟩;by_cases h95:D.c (at_+n+k+m)=95
   ·have e95:((D.c (at_+n+k+m):Int) != 95)=false:=(by rw [bne_eq_false_iff_eq];omega);have hin:=Doc.in_of (D:=D) (k:=at_+n+k+m) (by omega);have hg2:Hid (grp D b (at_+n+k)=if grp D b (at_+n+(k+m+1))=0 then 0 else m+1+grp D b (at_+n+(k+m+1))):=by
     show _=_;rw [hg.out,if_neg h0,if_pos h95,show at_+n+k+m+1=at_+n+(k+m+1) by omega]
    clear h95;go_wp2_with fail
    go_roundw
    case rel =>
     refine ⟨k+m+1,_,by congr 1;omega,by omega,?_,rfl⟩;show _=_;have h1:=hd.out;rw [if_neg (by omega)];by_cases hk0:k=0
     ·subst hk0;have h2:=hg2.out;rw [Nat.add_zero] at h2;rw [h2];simp only [Nat.zero_add]
     ·rw [if_neg hk0] at h1;rw [h1,hg2.out];by_cases hz:grp D b (at_+n+(k+m+1))=0
      ·rw [if_pos hz,if_pos hz,if_pos rfl]
      ·rw [if_neg hz,if_neg hz,if_neg (by omega)];omega
    case measure => simp [intOf];omega
   ·have e95:((D.c (at_+n+k+m):Int) != 95)=true:=(by rw [bne_iff_ne];omega);have hf:Hid (grp D b (at_+n)=k+m):=by
     show _=_;have h1:grp D b (at_+n+k)=m:=(by rw [hg.out,if_neg h0,if_neg h95]);have:=hd.out;by_cases hk0:k=0
     ·subst hk0;rw [Nat.add_zero] at h1;omega
     ·rw [if_neg hk0,if_neg (by omega),h1] at this;exact this
    clear h95;go_wp2_with fail
    go_ret;rw [hf.out];exact ⟨ret_int (by omega),_,rfl⟩
theorem ret_clk {a c:Int} {b d:Bool} (h:a=c) (h':b=d):Ending.returned (.tuple #[.int .i64 a,.bool b])=.returned (.tuple #[.int .i64 c,.bool d]):=by rw [h,h']
theorem clock_c (D:Doc) (bp:Nat) (A:Option Addr) (C:Nat) (at_ st p:Nat) (n:Int) (w:World) (hp:PS D bp A C w at_ st) (hat:at_<=1073741900) (hn:0<=n) (hn2:n<=1000) (hpp:(at_:Int)+n=(p:Int)) :
  Calls Tryz.prog 74 #[.pointer (some ⟨bp,0,none⟩),.int .i64 n] w fun e w' => e=.returned (.tuple #[.int .i64 (clkN D p),.bool (clkB D p)])/\∃ nq,w'=w.drewN nq:=by
 have hs:=D.small;have HP:=qqh hp;clear hp;obtain ⟨t1,ht1⟩:∃ t,twoRun D p 0 2=t:=⟨_,rfl⟩;obtain ⟨t2,ht2⟩:∃ t,twoRun D (p+3) 0 2=t:=⟨_,rfl⟩;obtain ⟨t3,ht3⟩:∃ t,twoRun D (p+6) 0 2=t:=⟨_,rfl⟩;obtain ⟨g,hg⟩:∃ t,dgN D 10 (p+9)=t:=⟨_,rfl⟩;have hgl:=dgN_le D 10 (p+9);rw [hg] at hgl;have H1:=qqh ht1;have H2:=qqh ht2;have H3:=qqh ht3;have HG:=qqh hg;have hN:Hid (clkN D p=if t1<0 then 0 else if D.c (p+2) ≠ 58 then 0 else if t2<0 then 0 else if D.c (p+5) ≠ 58 then 0 else if t3<0 then 0 else if D.c (p+8)=46 then (if g=0 then 0 else 9+g) else 8):=by
  show _=_;unfold clkN;rw [ht1,ht2,ht3,hg]
 have hB:Hid (clkB D p=(decide (clkN D p ≠ 0) && (decide (t1<24) && decide (t2<60) && decide (t3<60)))):=by
  show _=_;unfold clkB;rw [ht1,ht2,ht3]
 clear ht1 ht2 ht3 hg;go_enter Tryz.func74,Tryz.ntmps74;go_wp2_with fail
 refine (two_p D bp A C at_ st p 2 _ _ _ (by exact HP.out) (by omega) (by omega) (by omega) rfl (by omega) (by omega)).mono ?_;rintro e w1 ⟨rfl,nq1,rfl⟩;rw [H1.out];go_wp2_with fail
 refine (two_p D bp A C at_ st (p+3) 2 _ _ _ (by exact HP.out.drewN _) (by omega) (by omega) (by omega) rfl (by omega) (by omega)).mono ?_;rintro e w1 ⟨rfl,nq2,rfl⟩;rw [H2.out];go_wp2_with fail
 refine (two_p D bp A C at_ st (p+6) 2 _ _ _ (by exact HP.out.drewN _) (by omega) (by omega) (by omega) rfl (by omega) (by omega)).mono ?_;rintro e w1 ⟨rfl,nq3,rfl⟩;rw [H3.out];go_wp2_with (first
  | (go_at_call 20;refine (peek_p D bp A C at_ st (p+2) _ _ (by exact HP.out.drewN _) (by omega) (by omega) (by omega) (by omega)).mono ?_;rintro e w1 ⟨rfl,nq,rfl⟩)
  | (go_at_call 20;refine (peek_p D bp A C at_ st (p+5) _ _ (by exact HP.out.drewN _) (by omega) (by omega) (by omega) (by omega)).mono ?_;rintro e w1 ⟨rfl,nq,rfl⟩)
  | (go_at_call 20;refine (peek_p D bp A C at_ st (p+8) _ _ (by exact HP.out.drewN _) (by omega) (by omega) (by omega) (by omega)).mono ?_;rintro e w1 ⟨rfl,nq,rfl⟩)
  | (go_at_call 86;refine (digits_p D bp A C at_ st (p+9) 10 _ _ _ (by exact HP.out.drewN _) (by omega) (by omega) (by omega) rfl (by omega) (by omega)).mono ?_;rintro e w1 ⟨rfl,nq,rfl⟩;rw [HG.out]))
 all_goals (go_ret2;refine ⟨ret_clk ?_ ?_,_,rfl⟩)
 all_goals (try simp only [beq_iff_eq,beq_eq_false_iff_ne] at *)
 all_goals first
  | (rw [hN.out];(repeat' split) <;> omega)
  | (rw [hB.out,hN.out];(repeat' split) <;> first | omega | (simp;omega) | simp_all)
theorem dval_10 (x:Nat):decide (dval x<10)=decide (48<=x/\x<=57):=by
 rw [Bool.eq_iff_iff,decide_eq_true_iff,decide_eq_true_iff];unfold dval;(repeat' split) <;> omega
theorem dval_16 (x:Nat):decide (dval x<16)=decide (48<=x/\x<=57\/97<=x/\x<=102\/65<=x/\x<=70):=by
 rw [Bool.eq_iff_iff,decide_eq_true_iff,decide_eq_true_iff];unfold dval;(repeat' split) <;> omega
theorem dval_8 (x:Nat):decide (dval x<8)=decide (48<=x/\x<=55):=by
 rw [Bool.eq_iff_iff,decide_eq_true_iff,decide_eq_true_iff];unfold dval;(repeat' split) <;> omega
theorem dval_2 (x:Nat):decide (dval x<2)=decide (x=48\/x=49):=by
 rw [Bool.eq_iff_iff,decide_eq_true_iff,decide_eq_true_iff];unfold dval;(repeat' split) <;> omega
theorem dig111_c (x:Nat) (w:World):Calls Tryz.prog 111 #[.int .u8 x] w fun e w' => e=.returned (.bool (decide (dval x<10)))/\w'=w:=by
 rw [dval_10];go_enter Tryz.func111,Tryz.ntmps111;go_wp2_with fail
 all_goals (go_ret;refine ⟨ret_bool ?_,rfl⟩)
 all_goals first | (rw [eq_comm,decide_eq_true_iff];omega) | (rw [eq_comm,decide_eq_false_iff_not];omega) | (rw [Bool.eq_iff_iff];simp;omega)
theorem dig118_c (x:Nat) (w:World):Calls Tryz.prog 118 #[.int .u8 x] w fun e w' => e=.returned (.bool (decide (dval x<8)))/\w'=w:=by
 rw [dval_8];go_enter Tryz.func118,Tryz.ntmps118;go_wp2_with fail
 all_goals (go_ret;refine ⟨ret_bool ?_,rfl⟩)
 all_goals first | (rw [eq_comm,decide_eq_true_iff];omega) | (rw [eq_comm,decide_eq_false_iff_not];omega) | (rw [Bool.eq_iff_iff];simp;omega)
theorem dig119_c (x:Nat) (w:World):Calls Tryz.prog 119 #[.int .u8 x] w fun e w' => e=.returned (.bool (decide (dval x<2)))/\w'=w:=by
 rw [dval_2];go_enter Tryz.func119,Tryz.ntmps119;go_wp2_with fail
 all_goals (go_ret;refine ⟨ret_bool ?_,rfl⟩)
 all_goals first | (rw [eq_comm,decide_eq_true_iff];omega) | (rw [eq_comm,decide_eq_false_iff_not];omega) | (rw [Bool.eq_iff_iff];simp;omega)
theorem dig117_c (x:Nat) (w:World):Calls Tryz.prog 117 #[.int .u8 x] w fun e w' => e=.returned (.bool (decide (dval x<16)))/\w'=w:=by
 rw [dval_16];have h10:=dval_10 x;go_enter Tryz.func117,Tryz.ntmps117;by_cases hd:48<=x/\x<=57
 ·rw [qqt hd] at h10;go_wp2_with fail
  refine (dig111_c x _).mono ?_;rintro e w1 ⟨rfl,rfl⟩;rw [h10];go_wp2_with fail
  all_goals (go_ret;refine ⟨ret_bool ?_,rfl⟩)
  all_goals first | (rw [eq_comm,decide_eq_true_iff];omega) | (rw [eq_comm,decide_eq_false_iff_not];omega) | (rw [Bool.eq_iff_iff];simp;omega)
 ·rw [qqf hd] at h10;go_wp2_with fail
  refine (dig111_c x _).mono ?_;rintro e w1 ⟨rfl,rfl⟩;rw [h10];go_wp2_with fail
  all_goals (go_ret;refine ⟨ret_bool ?_,rfl⟩)
  all_goals first | (rw [eq_comm,decide_eq_true_iff];omega) | (rw [eq_comm,decide_eq_false_iff_not];omega) | (rw [Bool.eq_iff_iff];simp;omega)
end Go.Proofs.YtpgmddjgcgpoeaaGreat
