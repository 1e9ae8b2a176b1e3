/-
  A part of the proof.
-/
import Derived.Test.YtpgmddjgcgpoeaaGreatD01
import Derived.Lib.DecodeN
set_option linter.unusedVariables false
set_option linter.unusedSimpArgs false
set_option maxRecDepth 100000
set_option maxHeartbeats 8000000
namespace Go.Proofs.YtpgmddjgcgpoeaaGreat
def sgN (a b c d:Nat):Nat :=
 if a=9\/32<=a/\a<127 then 1
 else if a<194 then 0
 else if a<224 then (if 128<=b/\b<=191 then 2 else 0)
 else if a<240 then (if (128<=b/\b<=191)/\(128<=c/\c<=191)/\(a=224->160<=b)/\(a=237->b<=159) then 3 else 0)
 else if a<245 then (if (128<=b/\b<=191)/\(128<=c/\c<=191)/\(128<=d/\d<=191)/\(a=240->144<=b)/\(a=244->b<=143) then 4 else 0)
 else 0
def sg (D:Doc) (k:Nat):Nat:=sgN (D.c k) (D.c (k+1)) (D.c (k+2)) (D.c (k+3))
def encN (r:Nat):List Nat :=
 if r<128 then [r] else if r<2048 then [192+r / 64,128+r % 64] else if r<65536 then [224+r / 4096,128+r / 64 % 64,128+r % 64]
 else [240+r / 262144,128+r / 4096 % 64,128+r / 64 % 64,128+r % 64]
def validN (r:Nat):Prop:=r<55296\/(57344<=r/\r<=1114111)
theorem encode_eq (r:Nat) (h:validN r):Utf8.encode r=⟨((encN r).map UInt8.ofNat).toArray⟩:=by
 have hv:Utf8.valid (r:Int)=true:=by unfold Utf8.valid;unfold validN at h;simp;omega
 unfold Utf8.encode encN;simp only [hv,if_true,Int.toNat_natCast];split <;> (try split) <;> (try split) <;> rfl
theorem decode_valid (m a b c d:Nat) (ha:a<256) (hb:b<256) (_hc:c<256) (_hd:d<256):validN (Lib.decodeN m a b c d).1:=by
 unfold Lib.decodeN validN
 repeat' split
 all_goals (simp only;omega)
def again (m a b c d:Nat) (e:List Nat):Bool:=decide (e.length<=m) && (([a,b,c,d].take m).take e.length == e)
theorem again_good (m a b c d:Nat) (hm:1<=m) (hm4:m<=4) (ha:128<=a) (ha':a<256) (hb:b<256) (hc:c<256) (hd:d<256) (h1:m<=1->b=0) (h2:m<=2->c=0) (h3:m<=3->d=0)
  (hs:sgN a b c d ≠ 0):again m a b c d (encN (Lib.decodeN m a b c d).1)=true/\(encN (Lib.decodeN m a b c d).1).length=sgN a b c d:=by
 have h9:¬ (a=9\/32<=a/\a<127):=by omega
 unfold sgN at hs ⊢;rw [if_neg h9] at hs ⊢;by_cases c1:a<194
 ·rw [if_pos c1] at hs;exact absurd rfl hs
 rw [if_neg c1] at hs ⊢;by_cases c2:a<224
 ·rw [if_pos c2] at hs ⊢;by_cases k1:128<=b/\b<=191
  ·rw [if_pos k1];have e:Lib.decodeN m a b c d=(a % 32 * 64+b % 64,2):=by
    unfold Lib.decodeN;rw [if_neg (by omega),if_pos (by omega),if_pos (by omega)]
   rw [e];have e2:encN (a % 32 * 64+b % 64)=[a,b]:=by
    unfold encN;rw [if_neg (by omega),if_pos (by omega)]
    congr 1
    ·omega
    ·congr 1;omega
   simp only [e2];have hm2:2<=m:=(by omega);obtain rfl | rfl | rfl:m=2\/m=3\/m=4:=by omega
   all_goals simp [again]
  ·rw [if_neg k1] at hs;exact absurd rfl hs
 rw [if_neg c2] at hs ⊢;by_cases c3:a<240
 ·rw [if_pos c3] at hs ⊢;by_cases k1:(128<=b/\b<=191)/\(128<=c/\c<=191)/\(a=224->160<=b)/\(a=237->b<=159)
  ·rw [if_pos k1];have e:Lib.decodeN m a b c d=(a % 16 * 4096+b % 64 * 64+c % 64,3):=by
    unfold Lib.decodeN;rw [if_neg (by omega),if_neg (by omega),if_pos (by omega),if_pos (by omega)]
   rw [e];have e2:encN (a % 16 * 4096+b % 64 * 64+c % 64)=[a,b,c]:=by
    unfold encN;rw [if_neg (by omega),if_neg (by omega),if_pos (by omega)]
    congr 1
    ·omega
    ·congr 1
     ·omega
     ·congr 1;omega
   simp only [e2];have hm2:3<=m:=(by omega);obtain rfl | rfl:m=3\/m=4:=by omega
   all_goals simp [again]
  ·rw [if_neg k1] at hs;exact absurd rfl hs
 rw [if_neg c3] at hs ⊢;by_cases c4:a<245
 ·rw [if_pos c4] at hs ⊢;by_cases k1:(128<=b/\b<=191)/\(128<=c/\c<=191)/\(128<=d/\d<=191)/\(a=240->144<=b)/\(a=244->b<=143)
  ·rw [if_pos k1];have e:Lib.decodeN m a b c d=(a % 8 * 262144+b % 64 * 4096+c % 64 * 64+d % 64,4):=by
    unfold Lib.decodeN;rw [if_neg (by omega),if_neg (by omega),if_neg (by omega),if_pos (by omega),if_pos (by omega)]
   rw [e];have e2:encN (a % 8 * 262144+b % 64 * 4096+c % 64 * 64+d % 64)=[a,b,c,d]:=by
    unfold encN;rw [if_neg (by omega),if_neg (by omega),if_neg (by omega)]
    congr 1
    ·omega
    ·congr 1
     ·omega
     ·congr 1
      ·omega
      ·congr 1;omega
   simp only [e2];obtain rfl:m=4:=(by omega);simp [again]
  ·rw [if_neg k1] at hs;exact absurd rfl hs
 ·rw [if_neg c4] at hs;exact absurd rfl hs
theorem again_bad (m a b c d:Nat) (hm:1<=m) (hm4:m<=4) (ha:128<=a) (ha':a<256) (hb:b<256) (hc:c<256) (hd:d<256) (h1:m<=1->b=0) (h2:m<=2->c=0) (h3:m<=3->d=0)
  (hs:sgN a b c d=0):again m a b c d (encN (Lib.decodeN m a b c d).1)=false:=by
 have h9:¬ (a=9\/32<=a/\a<127):=by omega
 have e:Lib.decodeN m a b c d=(65533,1):=by
  unfold sgN at hs;rw [if_neg h9] at hs;unfold Lib.decodeN;rw [if_neg (by omega)];by_cases c1:a<194
  ·by_cases k:a / 32=6/\(1<m/\b / 64=2)
   ·rw [if_pos k,if_neg (by omega)]
   ·rw [if_neg k,if_neg (by omega),if_neg (by omega)]
  rw [if_neg c1] at hs;by_cases c2:a<224
  ·rw [if_pos c2] at hs;by_cases k1:128<=b/\b<=191
   ·rw [if_pos k1] at hs;omega
   ·rw [if_neg (by omega),if_neg (by omega),if_neg (by omega)]
  rw [if_neg c2] at hs;by_cases c3:a<240
  ·rw [if_pos c3] at hs;by_cases k1:(128<=b/\b<=191)/\(128<=c/\c<=191)/\(a=224->160<=b)/\(a=237->b<=159)
   ·rw [if_pos k1] at hs;omega
   ·rw [if_neg (by omega)];by_cases k:a / 16=14/\(1<m/\b / 64=2)/\(2<m/\c / 64=2)
    ·rw [if_pos k,if_neg (by omega)]
    ·rw [if_neg k,if_neg (by omega)]
  rw [if_neg c3] at hs;by_cases c4:a<245
  ·rw [if_pos c4] at hs;by_cases k1:(128<=b/\b<=191)/\(128<=c/\c<=191)/\(128<=d/\d<=191)/\(a=240->144<=b)/\(a=244->b<=143)
   ·rw [if_pos k1] at hs;omega
   ·rw [if_neg (by omega),if_neg (by omega)];by_cases k:a / 8=30/\(1<m/\b / 64=2)/\(2<m/\c / 64=2)/\(3<m/\d / 64=2)
    ·rw [if_pos k,if_neg (by omega)]
    ·rw [if_neg k]
  ·rw [if_neg (by omega),if_neg (by omega)];by_cases k:a / 8=30/\(1<m/\b / 64=2)/\(2<m/\c / 64=2)/\(3<m/\d / 64=2)
   ·rw [if_pos k,if_neg (by omega)]
   ·rw [if_neg k]
 rw [e];have e2:encN 65533=[239,191,189]:=by decide
 simp only [e2];by_cases h:a=239/\b=191/\c=189
 ·obtain ⟨rfl,rfl,rfl⟩:=h;exfalso
  revert hs
  simp [sgN]
 ·unfold again;rw [Bool.and_eq_false_iff];by_cases hm3:3<=m
  ·right;obtain rfl | rfl:m=3\/m=4:=by omega
   all_goals (simp;intro h1 h2 h3;exact h ⟨h1,h2,h3⟩)
  ·left;simp;omega
theorem sgN_cases (a b c d:Nat):sgN a b c d=0\/(sgN a b c d=1/\a ≠ 0/\a<128)\/(sgN a b c d=2/\194<=a/\128<=b)\/(sgN a b c d=3/\194<=a/\128<=b/\128<=c)\/(sgN a b c d=4/\194<=a/\128<=b/\128<=c/\128<=d):=by
 unfold sgN
 (repeat' split) <;> omega
theorem sg_le (D:Doc) (k:Nat):sg D k<=4:=by
 unfold sg;rcases sgN_cases (D.c k) (D.c (k+1)) (D.c (k+2)) (D.c (k+3)) with h | h | h | h | h <;> omega
theorem sg_in (D:Doc) (k:Nat) (h:sg D k ≠ 0):k+sg D k<=D.n:=by
 have h1:=Doc.in_of (D:=D) (k:=k);have h2:=Doc.in_of (D:=D) (k:=k+1);have h3:=Doc.in_of (D:=D) (k:=k+2);have h4:=Doc.in_of (D:=D) (k:=k+3);unfold sg at h ⊢;rcases sgN_cases (D.c k) (D.c (k+1)) (D.c (k+2)) (D.c (k+3)) with g | g | g | g | g <;> omega
def cmtRun (D:Doc) (k:Nat):R Unit :=
 if D.n<=k then .good () k else if nlen D k ≠ 0 then .good () k else if sg D k=0 then .bad else cmtRun D (k+sg D k)
termination_by D.n - k
def cmt (D:Doc) (k:Nat):R Unit:=if D.c k=35 then cmtRun D k else .good () k
theorem cmtRun_ge (D:Doc) (k k':Nat) (h:cmtRun D k=.good () k'):k<=k':=by
 induction hm:D.n - k using Nat.strongRecOn generalizing k with
 | _ m ih =>
  rw [cmtRun] at h;split at h
  ·injection h with _ h;omega
  split at h
  ·injection h with _ h;omega
  split at h
  ·cases h
  ·have:=ih (D.n - (k+sg D k)) (by omega) (k+sg D k) h rfl;omega
theorem cmt_ge (D:Doc) (k k':Nat) (h:cmt D k=.good () k'):k<=k':=by
 unfold cmt at h;split at h
 ·exact cmtRun_ge D k k' h
 ·injection h with _ h;omega
theorem cmtRun_le (D:Doc) (k k':Nat) (h:cmtRun D k=.good () k'):k'<=D.n\/k'=k:=by
 induction hm:D.n - k using Nat.strongRecOn generalizing k with
 | _ m ih =>
  rw [cmtRun] at h;split at h
  ·injection h with _ h;omega
  split at h
  ·injection h with _ h;omega
  split at h
  ·cases h
  ·have h2:=sg_in D k (by omega);have:=ih (D.n - (k+sg D k)) (by omega) (k+sg D k) h rfl;omega
theorem cmt_le (D:Doc) (k k':Nat) (h:cmt D k=.good () k'):k'<=D.n\/k'=k:=by
 unfold cmt at h;split at h
 ·exact cmtRun_le D k k' h
 ·injection h with _ h;omega
theorem cmt_not_opn (D:Doc) (k:Nat):cmt D k ≠ .opn:=by
 have h:∀ m k,D.n - k=m->cmtRun D k ≠ .opn:=by
  intro m
  induction m using Nat.strongRecOn with
  | _ m ih =>
   intro k hm;rw [cmtRun];split
   ·intro h;cases h
   split
   ·intro h;cases h
   split
   ·intro h;cases h
   ·exact ih (D.n - (k+sg D k)) (by omega) (k+sg D k) rfl
 unfold cmt;split
 ·exact h _ k rfl
 ·intro h;cases h
def spc (D:Doc) (k:Nat):R Unit :=
 match _h:cmt D (wsEnd D k) with
 | .good _ k2 => if nlen D k2=0 then .good () k2 else spc D (k2+nlen D k2)
 | _ => .bad
termination_by D.n - k
decreasing_by
 have h1:=cmt_ge D _ _ _h;have h2:=wsEnd_ge D k;have h3:D.c k2 ≠ 0:=fun e => by rename_i hn;apply hn;unfold nlen;rw [if_neg (by omega),if_neg (by omega)]
 have h4:=Doc.in_of h3;omega
def escV (D:Doc) (k:Nat) (v:Nat):Nat->Nat
 | 0 => v
 | m+1 => escV D (k+1) (16 * v+dval (D.c k)) m
def encU (v:Nat):List UInt8:=(encN v).map UInt8.ofNat
def escM (b:Nat):Nat:=if b=117 then 4 else if b=85 then 8 else 0
def escB (b:Nat):Nat:=if b=98 then 8 else if b=116 then 9 else if b=110 then 10 else if b=102 then 12 else if b=114 then 13 else if b=34 then 34 else if b=92 then 92 else 0
def esc (D:Doc) (k:Nat):R (List UInt8) :=
 if escB (D.c k) ≠ 0 then .good [UInt8.ofNat (escB (D.c k))] (k+1)
 else if D.c k=101\/D.c k=120 then .opn
 else if escM (D.c k)=0 then .bad
 else if dgN D 16 (k+1)<escM (D.c k) then .bad
 else if escV D (k+1) 0 (escM (D.c k)) > 1114111\/55296<=escV D (k+1) 0 (escM (D.c k))/\escV D (k+1) 0 (escM (D.c k))<57344 then .bad
 else .good (encU (escV D (k+1) 0 (escM (D.c k)))) (k+1+escM (D.c k))
def R.list (r:R (List UInt8)):List UInt8:=match r with | .good l _ => l | _ => []
theorem esc_in (D:Doc) (k k':Nat) (l:List UInt8) (h:esc D k=.good l k'):k<k'/\k'<=D.n:=by
 have h0:D.c k ≠ 0:=by
  intro e;unfold esc at h;rw [e] at h;simp [escB,escM] at h
 have hin:=Doc.in_of h0;unfold esc at h;split at h
 ·injection h with _ h;omega
 split at h
 ·cases h
 split at h
 ·cases h
 split at h
 ·cases h
 split at h
 ·cases h
 ·have:=dgN_le D 16 (k+1);injection h with _ h;omega
def txtRun (D:Doc) (q:Nat) (k:Nat) (acc:List UInt8):R (List UInt8) :=
 if _hn:D.n<=k then .bad
 else if D.c k=q then .good acc (k+1)
 else if D.c k=92/\q=34 then
  match _h:esc D (k+1) with
  | .good l k' => txtRun D q k' (acc++l)
  | .bad => .bad
  | .opn => .opn
 else if _hs:sg D k=0 then .bad
 else txtRun D q (k+sg D k) (acc++D.sub k (sg D k))
termination_by D.n - k
decreasing_by
 ·have:=esc_in D _ _ _ _h;omega
 ·omega
def txt (D:Doc) (q:Nat) (k:Nat):R (List UInt8):=txtRun D q (k+1) []
theorem txt_stop {D:Doc} {q k:Nat} {acc:List UInt8} (hn:D.n<=k):txtRun D q k acc=.bad:=by rw [txtRun,dif_pos hn]
theorem txt_end {D:Doc} {q k:Nat} {acc:List UInt8} (hn:k<D.n) (hq:D.c k=q):txtRun D q k acc=.good acc (k+1):=by rw [txtRun,dif_neg (by omega),if_pos hq]
theorem txt_esc {D:Doc} {q k:Nat} {acc:List UInt8} (hn:k<D.n) (hq:D.c k ≠ q) (hb:D.c k=92/\q=34) :
  txtRun D q k acc=match esc D (k+1) with | .good l k' => txtRun D q k' (acc++l) | .bad => .bad | .opn => .opn:=by
 rw [txtRun,dif_neg (by omega),if_neg hq,if_pos hb];split
 ·rename_i h;rw [h]
 ·rename_i h;rw [h]
 ·rename_i h;rw [h]
theorem txt_bad {D:Doc} {q k:Nat} {acc:List UInt8} (hn:k<D.n) (hq:D.c k ≠ q) (hb:¬ (D.c k=92/\q=34)) (hs:sg D k=0):txtRun D q k acc=.bad:=by
 rw [txtRun,dif_neg (by omega),if_neg hq,if_neg hb,dif_pos hs]
theorem txt_go {D:Doc} {q k:Nat} {acc:List UInt8} (hn:k<D.n) (hq:D.c k ≠ q) (hb:¬ (D.c k=92/\q=34)) (hs:sg D k ≠ 0):txtRun D q k acc=txtRun D q (k+sg D k) (acc++D.sub k (sg D k)):=by
 rw [txtRun,dif_neg (by omega),if_neg hq,if_neg hb,dif_neg hs]
def wsl (D:Doc) (k:Nat):Nat:=if _h:nlen D (wsEnd D k)=0 then wsEnd D k else wsl D (wsEnd D k+nlen D (wsEnd D k))
termination_by D.n - k
decreasing_by
 have h2:=wsEnd_ge D k;have h3:D.c (wsEnd D k) ≠ 0:=fun e => by apply _h;unfold nlen;rw [if_neg (by omega),if_neg (by omega)]
 have h4:=Doc.in_of h3;omega
theorem wsl_ge (D:Doc) (k:Nat):k<=wsl D k:=by
 induction hm:D.n - k using Nat.strongRecOn generalizing k with
 | _ m ih =>
  have h2:=wsEnd_ge D k;rw [wsl];split
  ·exact h2
  ·rename_i h;have h3:D.c (wsEnd D k) ≠ 0:=fun e => by apply h;unfold nlen;rw [if_neg (by omega),if_neg (by omega)]
   have h4:=Doc.in_of h3;have:=ih (D.n - (wsEnd D k+nlen D (wsEnd D k))) (by omega) (wsEnd D k+nlen D (wsEnd D k)) rfl;omega
def three (D:Doc) (q k:Nat):Prop:=D.c k=q/\D.c (k+1)=q/\D.c (k+2)=q
instance (D:Doc) (q k:Nat):Decidable (three D q k):=by unfold three;infer_instance
def more (D:Doc) (q k:Nat):Nat:=if D.c (k+3)=q then (if D.c (k+4)=q then 2 else 1) else 0
def linRun (D:Doc) (q:Nat) (k:Nat) (acc:List UInt8):R (List UInt8) :=
 if _hn:D.n<=k then .bad
 else if three D q k then .good (acc++List.replicate (more D q k) (UInt8.ofNat q)) (k+3+more D q k)
 else if D.c k=92/\q=34 then
  (
   if _hl:nlen D (wsEnd D (k+1)) ≠ 0 then linRun D q (wsl D (wsEnd D (k+1)+nlen D (wsEnd D (k+1)))) acc
   else match _h:esc D (k+1) with
   | .good l k' => linRun D q k' (acc++l)
   | .bad => .bad
   | .opn => .opn)
 else if D.c k=10 then linRun D q (k+1) (acc++[10])
 else if D.c k=13/\D.c (k+1)=10 then linRun D q (k+2) (acc++[13,10])
 else if _hs:sg D k=0 then .bad
 else linRun D q (k+sg D k) (acc++D.sub k (sg D k))
termination_by D.n - k
decreasing_by
 ·have h1:=wsEnd_ge D (k+1);have h2:=wsl_ge D (wsEnd D (k+1)+nlen D (wsEnd D (k+1)));omega
 ·have:=esc_in D _ _ _ _h;omega
 ·omega
 ·omega
 ·omega
def lin (D:Doc) (q:Nat) (k:Nat):R (List UInt8):=linRun D q (k+3+nlen D (k+3)) []
theorem lin_stop {D:Doc} {q k:Nat} {acc:List UInt8} (hn:D.n<=k):linRun D q k acc=.bad:=by rw [linRun,dif_pos hn]
theorem lin_end {D:Doc} {q k:Nat} {acc:List UInt8} (hn:k<D.n) (hq:three D q k):linRun D q k acc=.good (acc++List.replicate (more D q k) (UInt8.ofNat q)) (k+3+more D q k):=by
 rw [linRun,dif_neg (by omega),if_pos hq]
theorem lin_ws {D:Doc} {q k:Nat} {acc:List UInt8} (hn:k<D.n) (hq:¬ three D q k) (hb:D.c k=92/\q=34) (hl:nlen D (wsEnd D (k+1)) ≠ 0) :
  linRun D q k acc=linRun D q (wsl D (wsEnd D (k+1)+nlen D (wsEnd D (k+1)))) acc:=by
 rw [linRun,dif_neg (by omega),if_neg hq,if_pos hb,dif_pos hl]
theorem lin_esc {D:Doc} {q k:Nat} {acc:List UInt8} (hn:k<D.n) (hq:¬ three D q k) (hb:D.c k=92/\q=34) (hl:nlen D (wsEnd D (k+1))=0) :
  linRun D q k acc=match esc D (k+1) with | .good l k' => linRun D q k' (acc++l) | .bad => .bad | .opn => .opn:=by
 rw [linRun,dif_neg (by omega),if_neg hq,if_pos hb,dif_neg (by omega)];split
 ·rename_i h;rw [h]
 ·rename_i h;rw [h]
 ·rename_i h;rw [h]
theorem lin_nl {D:Doc} {q k:Nat} {acc:List UInt8} (hn:k<D.n) (hq:¬ three D q k) (hb:¬ (D.c k=92/\q=34)) (h:D.c k=10):linRun D q k acc=linRun D q (k+1) (acc++[10]):=by
 rw [linRun,dif_neg (by omega),if_neg hq,if_neg hb,if_pos h]
theorem lin_crnl {D:Doc} {q k:Nat} {acc:List UInt8} (hn:k<D.n) (hq:¬ three D q k) (hb:¬ (D.c k=92/\q=34)) (h:D.c k ≠ 10) (h2:D.c k=13/\D.c (k+1)=10):linRun D q k acc=linRun D q (k+2) (acc++[13,10]):=by
 rw [linRun,dif_neg (by omega),if_neg hq,if_neg hb,if_neg h,if_pos h2]
theorem lin_bad {D:Doc} {q k:Nat} {acc:List UInt8} (hn:k<D.n) (hq:¬ three D q k) (hb:¬ (D.c k=92/\q=34)) (h:D.c k ≠ 10) (h2:¬ (D.c k=13/\D.c (k+1)=10)) (hs:sg D k=0):linRun D q k acc=.bad:=by
 rw [linRun,dif_neg (by omega),if_neg hq,if_neg hb,if_neg h,if_neg h2,dif_pos hs]
theorem lin_go {D:Doc} {q k:Nat} {acc:List UInt8} (hn:k<D.n) (hq:¬ three D q k) (hb:¬ (D.c k=92/\q=34)) (h:D.c k ≠ 10) (h2:¬ (D.c k=13/\D.c (k+1)=10)) (hs:sg D k ≠ 0) :
  linRun D q k acc=linRun D q (k+sg D k) (acc++D.sub k (sg D k)):=by
 rw [linRun,dif_neg (by omega),if_neg hq,if_neg hb,if_neg h,if_neg h2,dif_neg hs]
theorem bareB_nz {x:Nat} (h:bareB x=true):x ≠ 0:=by unfold bareB at h;simp at h;omega
def bareEnd (D:Doc) (k:Nat):Nat:=if _h:bareB (D.c k)=true then bareEnd D (k+1) else k
termination_by D.n - k
decreasing_by have:=Doc.in_of (bareB_nz _h);omega
theorem bareEnd_go {D:Doc} {k:Nat} (h:bareB (D.c k)=true):bareEnd D k=bareEnd D (k+1):=by rw [bareEnd,dif_pos h]
theorem bareEnd_stop {D:Doc} {k:Nat} (h:bareB (D.c k)=false):bareEnd D k=k:=by rw [bareEnd,dif_neg (by simp [h])]
theorem bareEnd_ge (D:Doc) (k:Nat):k<=bareEnd D k/\(k<=D.n->bareEnd D k<=D.n):=by
 induction hm:D.n - k using Nat.strongRecOn generalizing k with
 | _ m ih =>
  by_cases h:bareB (D.c k)=true
  ·have hin:=Doc.in_of (bareB_nz h);have:=ih (D.n - (k+1)) (by omega) (k+1) rfl;rw [bareEnd_go h];omega
  ·rw [bareEnd_stop (by simpa using h)];omega
theorem txtRun_in (D:Doc) (q:Nat) (k k':Nat) (acc l:List UInt8) (h:txtRun D q k acc=.good l k'):k<k'/\k'<=D.n:=by
 induction hm:D.n - k using Nat.strongRecOn generalizing k acc with
 | _ m ih =>
  by_cases hn:D.n<=k
  ·rw [txt_stop hn] at h;cases h
  by_cases hq:D.c k=q
  ·rw [txt_end (by omega) hq] at h;injection h with _ h;omega
  by_cases hb:D.c k=92/\q=34
  ·rw [txt_esc (by omega) hq hb] at h;cases he:esc D (k+1) with
   | good l' k2 =>
    rw [he] at h;have h1:=esc_in D _ _ _ he;have:=ih (D.n - k2) (by omega) k2 _ h rfl;omega
   | bad => rw [he] at h;cases h
   | opn => rw [he] at h;cases h
  by_cases hs:sg D k=0
  ·rw [txt_bad (by omega) hq hb hs] at h;cases h
  ·rw [txt_go (by omega) hq hb hs] at h;have h1:=sg_in D k hs;have:=ih (D.n - (k+sg D k)) (by omega) (k+sg D k) _ h rfl;omega
theorem txt_in (D:Doc) (q:Nat) (k k':Nat) (l:List UInt8) (h:txt D q k=.good l k'):k+1<k'/\k'<=D.n:=txtRun_in D q _ _ _ _ h
def keyRun (D:Doc) (k:Nat) (acc:List (List UInt8)):R (List (List UInt8)) :=
 if D.c (wsEnd D k)=34\/D.c (wsEnd D k)=39 then
  if three D (D.c (wsEnd D k)) (wsEnd D k) then .bad
  else match _h:txt D (D.c (wsEnd D k)) (wsEnd D k) with
   | .good l k' => if _h2:D.c (wsEnd D k')=46 then keyRun D (wsEnd D k'+1) (acc++[l]) else .good (acc++[l]) (wsEnd D k')
   | .bad => .bad
   | .opn => .opn
 else if _hb:bareB (D.c (wsEnd D k))=true then
  if _h2:D.c (wsEnd D (bareEnd D (wsEnd D k)))=46 then keyRun D (wsEnd D (bareEnd D (wsEnd D k))+1) (acc++[D.sub (wsEnd D k) (bareEnd D (wsEnd D k) - wsEnd D k)])
  else .good (acc++[D.sub (wsEnd D k) (bareEnd D (wsEnd D k) - wsEnd D k)]) (wsEnd D (bareEnd D (wsEnd D k)))
 else .bad
termination_by D.n - k
decreasing_by
 ·have h1:=wsEnd_ge D k;have h3:=txt_in D _ _ _ _ _h;have h4:=wsEnd_ge D k';have h5:=Doc.in_of (D:=D) (k:=wsEnd D k') (by omega);omega
 ·have h1:=wsEnd_ge D k;have h3:=(bareEnd_ge D (wsEnd D k)).1;have h4:=wsEnd_ge D (bareEnd D (wsEnd D k));have h5:=Doc.in_of (D:=D) (k:=wsEnd D (bareEnd D (wsEnd D k))) (by omega);omega
def keyP (D:Doc) (k:Nat):R (List (List UInt8)):=keyRun D k []
def keyThen (D:Doc) (k:Nat) (acc:List (List UInt8)):R (List (List UInt8)):=if D.c (wsEnd D k)=46 then keyRun D (wsEnd D k+1) acc else .good acc (wsEnd D k)
def keyAfter (D:Doc) (acc:List (List UInt8)):R (List UInt8)->R (List (List UInt8)) | .good l k' => keyThen D k' (acc++[l]) | .bad => .bad | .opn => .opn
theorem key_quote {D:Doc} {k:Nat} {acc:List (List UInt8)} (hq:D.c (wsEnd D k)=34\/D.c (wsEnd D k)=39) (ht:¬ three D (D.c (wsEnd D k)) (wsEnd D k)) :
  keyRun D k acc=keyAfter D acc (txt D (D.c (wsEnd D k)) (wsEnd D k)):=by
 rw [keyRun,if_pos hq,if_neg ht];split
 ·rename_i h;rw [h];show _=keyThen D _ _;unfold keyThen;simp only [dite_eq_ite]
 ·rename_i h;rw [h];rfl
 ·rename_i h;rw [h];rfl
theorem key_three {D:Doc} {k:Nat} {acc:List (List UInt8)} (hq:D.c (wsEnd D k)=34\/D.c (wsEnd D k)=39) (ht:three D (D.c (wsEnd D k)) (wsEnd D k)):keyRun D k acc=.bad:=by
 rw [keyRun,if_pos hq,if_pos ht]
theorem key_bare {D:Doc} {k:Nat} {acc:List (List UInt8)} (hq:¬ (D.c (wsEnd D k)=34\/D.c (wsEnd D k)=39)) (hb:bareB (D.c (wsEnd D k))=true) :
  keyRun D k acc=keyThen D (bareEnd D (wsEnd D k)) (acc++[D.sub (wsEnd D k) (bareEnd D (wsEnd D k) - wsEnd D k)]):=by
 rw [keyRun,if_neg hq,dif_pos hb];unfold keyThen;split <;> rfl
theorem key_none {D:Doc} {k:Nat} {acc:List (List UInt8)} (hq:¬ (D.c (wsEnd D k)=34\/D.c (wsEnd D k)=39)) (hb:bareB (D.c (wsEnd D k))=false):keyRun D k acc=.bad:=by
 rw [keyRun,if_neg hq,dif_neg (by simp [hb])]
def datN (D:Doc) (k:Nat):Nat × Nat :=
 if twoRun D (k+5) 0 2<0\/D.c (k+7) ≠ 45\/twoRun D (k+8) 0 2<0 then (0,0)
 else if twoRun D (k+5) 0 2<1\/12<twoRun D (k+5) 0 2\/twoRun D (k+8) 0 2<1\/monthP (twoRun D k 0 4) (twoRun D (k+5) 0 2)<twoRun D (k+8) 0 2\/twoRun D k 0 4=0 then (0,0)
 else if D.c (k+10) ≠ 84/\D.c (k+10) ≠ 116/\(D.c (k+10) ≠ 32\/twoRun D (k+11) 0 2<0) then (6,10)
 else if D.c (k+10)=116 then (0,0)
 else if clkN D (k+11)=0 then (0,0)
 else if clkB D (k+11)=false then (0,0)
 else if D.c (k+11+clkN D (k+11))=90 then (4,11+clkN D (k+11)+1)
 else if D.c (k+11+clkN D (k+11))=122 then (0,0)
 else if D.c (k+11+clkN D (k+11))=43\/D.c (k+11+clkN D (k+11))=45 then
  (
   if twoRun D (k+11+clkN D (k+11)+1) 0 2<0\/D.c (k+11+clkN D (k+11)+3) ≠ 58\/twoRun D (k+11+clkN D (k+11)+4) 0 2<0 then (0,0)
   else if 23<twoRun D (k+11+clkN D (k+11)+1) 0 2\/59<twoRun D (k+11+clkN D (k+11)+4) 0 2 then (0,0)
   else (4,11+clkN D (k+11)+6))
 else (5,11+clkN D (k+11))
def rawR (D:Doc) (k:Nat) (x:Nat × Nat):R (Nat × List UInt8):=if x.2=0 then .opn else .good (x.1,D.sub k x.2) (k+x.2)
def dat (D:Doc) (k:Nat):R (Nat × List UInt8):=rawR D k (datN D k)
def datedB (D:Doc) (k:Nat):Bool :=
 decide (48<=D.c k/\D.c k<=57\/D.c k=45\/D.c k=43\/D.c k=58\/D.c k=46\/D.c k=84\/D.c k=116\/D.c k=90\/D.c k=122\/D.c k=32/\48<=D.c (k+1)/\D.c (k+1)<=57)
def dtd (D:Doc):R (Nat × List UInt8)->R (Nat × List UInt8)
 | .good x k => if datedB D k then .opn else .good x k
 | .bad => .bad
 | .opn => .opn
def sgnN (D:Doc) (k:Nat):Nat:=if D.c k=43\/D.c k=45 then 1 else 0
def expS (D:Doc) (k:Nat):Nat:=if D.c (k+1)=43\/D.c (k+1)=45 then 2 else 1
def expN (D:Doc) (k n kind:Nat):R (Nat × List UInt8) :=
 if D.c (k+n)=101\/D.c (k+n)=69 then
  (
   if grp D 10 (k+n+expS D (k+n))=0 then .bad
   else .good (2,D.sub k (n+expS D (k+n)+grp D 10 (k+n+expS D (k+n)))) (k+(n+expS D (k+n)+grp D 10 (k+n+expS D (k+n)))))
 else .good (kind,D.sub k n) (k+n)
def fracN (D:Doc) (k n:Nat):R (Nat × List UInt8) :=
 if D.c (k+n)=46 then
  (if grp D 10 (k+n+1)=0 then .bad else expN D k (n+1+grp D 10 (k+n+1)) 2)
 else expN D k n 1
def tenN (D:Doc) (k n:Nat):R (Nat × List UInt8) :=
 if grp D 10 (k+n)=0\/D.c (k+n)=48/\1<grp D 10 (k+n) then .bad else fracN D k (n+grp D 10 (k+n))
def infN (D:Doc) (k n:Nat):R (Nat × List UInt8) :=
 if hasB D (k+n) [105,110,102]=true\/hasB D (k+n) [110,97,110]=true then .good (2,D.sub k (n+3)) (k+(n+3)) else tenN D k n
def baseN (D:Doc) (k b:Nat):R (Nat × List UInt8):=if grp D b (k+2)=0 then .bad else .good (1,D.sub k (2+grp D b (k+2))) (k+(2+grp D b (k+2)))
def timN (D:Doc) (k:Nat):R (Nat × List UInt8):=if clkB D k=false then .opn else dtd D (.good (7,D.sub k (clkN D k)) (k+clkN D k))
def numP (D:Doc) (k:Nat):R (Nat × List UInt8) :=
 if 0<=twoRun D k 0 4/\D.c (k+4)=45 then dtd D (dat D k)
 else if 0<=twoRun D k 0 2/\D.c (k+2)=58 then timN D k
 else if hasB D k [48,120]=true then baseN D k 16
 else if hasB D k [48,111]=true then baseN D k 8
 else if hasB D k [48,98]=true then baseN D k 2
 else infN D k (sgnN D k)
theorem twoRun_in (D:Doc):∀ (m k v:Nat),0<=twoRun D k v m->0<m->k+m<=D.n
 | 0,_,_,_,h => absurd h (by omega)
 | m+1,k,v,h,_ => by
  rw [twoRun] at h;split at h
  ·rename_i hd;have hin:=Doc.in_of (D:=D) (k:=k) (by omega);rcases Nat.eq_zero_or_pos m with rfl | hm
   ·omega
   ·have:=twoRun_in D m (k+1) _ h hm;omega
  ·omega
theorem twoRun_lt (D:Doc):∀ (m k v:Nat),twoRun D k v m<(((v+1) * 10 ^ m:Nat):Int)
 | 0,_,v => by rw [twoRun];omega
 | m+1,k,v => by
  rw [twoRun];split
  ·have h1:=twoRun_lt D m (k+1) (10 * v+(D.c k - 48));refine Int.lt_of_lt_of_le h1 (Int.ofNat_le.2 ?_);rw [Nat.pow_succ,Nat.mul_comm (10 ^ m),<- Nat.mul_assoc];exact Nat.mul_le_mul_right _ (by omega)
  ·have:0<(v+1) * 10 ^ (m+1):=Nat.mul_pos (by omega) (Nat.pow_pos (by omega));omega
theorem clkN_in (D:Doc) (k:Nat) (h:clkN D k ≠ 0):k+clkN D k<=D.n/\8<=clkN D k:=by
 unfold clkN at h ⊢;by_cases h1:twoRun D k 0 2<0
 ·rw [if_pos h1] at h;exact absurd rfl h
 rw [if_neg h1] at h ⊢;by_cases h2:D.c (k+2) ≠ 58
 ·rw [if_pos h2] at h;exact absurd rfl h
 rw [if_neg h2] at h ⊢;by_cases h3:twoRun D (k+3) 0 2<0
 ·rw [if_pos h3] at h;exact absurd rfl h
 rw [if_neg h3] at h ⊢;by_cases h4:D.c (k+5) ≠ 58
 ·rw [if_pos h4] at h;exact absurd rfl h
 rw [if_neg h4] at h ⊢;by_cases h5:twoRun D (k+6) 0 2<0
 ·rw [if_pos h5] at h;exact absurd rfl h
 rw [if_neg h5] at h ⊢;have h6:=twoRun_in D 2 (k+6) 0 (by omega) (by omega);have h7:=dgN_le D 10 (k+9);by_cases h8:D.c (k+8)=46
 ·rw [if_pos h8] at h ⊢;by_cases h9:dgN D 10 (k+9)=0
  ·rw [if_pos h9] at h;exact absurd rfl h
  ·rw [if_neg h9];omega
 ·rw [if_neg h8];omega
inductive Tree where
 | mk (kind:Nat) (text:List UInt8) (items:List Tree) (keys:List (List UInt8))
def Tree.under (t:Tree) (ks:List (List UInt8)):Tree:=match t with | .mk k l i _ => .mk k l i ks
def R.dead {α β:Type} (r:R α):R β:=match r with | .opn => .opn | _ => .bad
def lstRun (D:Doc) (f:Nat->R Tree) (k:Nat) (acc:List Tree):R Tree :=
 match spc D k with
 | .good _ k1 =>
  if D.c k1=93 then .good (.mk 8 [] acc []) (k1+1)
  else match f k1 with
   | .good v k2 =>
    if _h:k<k2/\k2<=D.n then
     match _hs:spc D k2 with
     | .good _ k3 => if _hc:D.c k3=44 then lstRun D f (k3+1) (acc++[v]) else if D.c k3=93 then .good (.mk 8 [] (acc++[v]) []) (k3+1) else .bad
     | .bad => .bad
     | .opn => .opn
    else .bad
   | .bad => .bad
   | .opn => .opn
 | _ => (f D.n).dead
termination_by D.n - k
decreasing_by
 have h3:k3<D.n:=Doc.in_of (by omega);have h4:k2<=k3:=by
  have:∀ m k k',D.n - k=m->spc D k=.good () k'->k<=k':=by
   intro m
   induction m using Nat.strongRecOn with
   | _ m ih =>
    intro k k' hm h;rw [spc] at h;split at h
    ·rename_i k2 hc;have h1:=cmt_ge D _ _ hc;have h2:=wsEnd_ge D k;split at h
     ·injection h with _ h;omega
     ·rename_i hn;have h3:D.c k2 ≠ 0:=fun e => by apply hn;unfold nlen;rw [if_neg (by omega),if_neg (by omega)]
      have h4:=Doc.in_of h3;have:=ih (D.n - (k2+nlen D k2)) (by omega) (k2+nlen D k2) k' rfl h;omega
    ·cases h
  exact this _ k2 k3 rfl _hs
 omega
def latB (D:Doc) (k:Nat):Prop:=D.c k=10\/D.c k=13\/D.c k=35
instance (D:Doc) (k:Nat):Decidable (latB D k):=by unfold latB;infer_instance
inductive Nx where | comma (k:Nat) | fin (k:Nat) | bad | opn
def tabNx (D:Doc) (k:Nat):Nx :=
 if D.c (wsEnd D k)=44 then
  (if D.c (wsEnd D (wsEnd D k+1))=125 then .opn else if latB D (wsEnd D (wsEnd D k+1)) then .opn else .comma (wsEnd D (wsEnd D k+1)))
 else if D.c (wsEnd D k)=125 then .fin (wsEnd D k+1)
 else if latB D (wsEnd D k) then .opn else .bad
def tabRun (D:Doc) (f:Nat->R Tree) (k:Nat) (acc:List Tree):R Tree :=
 match keyP D k with
 | .good ks k1 =>
  if D.c k1 ≠ 61 then .bad
  else match f (wsEnd D (k1+1)) with
   | .good v k3 =>
    if _h:k<k3/\k3<=D.n then
     match _hs:tabNx D k3 with
     | .comma k5 => tabRun D f k5 (acc++[v.under ks])
     | .fin k4 => .good (.mk 9 [] (acc++[v.under ks]) []) k4
     | .bad => .bad
     | .opn => .opn
    else .bad
   | .bad => .bad
   | .opn => .opn
 | .bad => .bad
 | .opn => .opn
termination_by D.n - k
decreasing_by
 have:k3<=k5:=by
  unfold tabNx at _hs;have h1:=wsEnd_ge D k3;have h2:=wsEnd_ge D (wsEnd D k3+1);split at _hs
  ·split at _hs
   ·cases _hs
   ·split at _hs
    ·cases _hs
    ·injection _hs with _hs;omega
  ·split at _hs
   ·cases _hs
   ·split at _hs <;> cases _hs
 omega
def tabP (D:Doc) (f:Nat->R Tree) (k:Nat):R Tree :=
 if D.c (wsEnd D k)=125 then .good (.mk 9 [] [] []) (wsEnd D k+1) else if latB D (wsEnd D k) then .opn else tabRun D f (wsEnd D k) []
def R.str:R (List UInt8)->R Tree | .good l k => .good (.mk 0 l [] []) k | .bad => .bad | .opn => .opn
def R.leaf:R (Nat × List UInt8)->R Tree | .good x k => .good (.mk x.1 x.2 [] []) k | .bad => .bad | .opn => .opn
def valP (D:Doc):Nat->Nat->R Tree
 | 0,_ => .opn
 | d+1,k =>
  if three D 34 k\/three D 39 k then (lin D (D.c k) k).str
  else if D.c k=34\/D.c k=39 then (txt D (D.c k) k).str
  else if hasB D k [116,114,117,101]=true then .good (.mk 3 (D.sub k 4) [] []) (k+4)
  else if hasB D k [102,97,108,115,101]=true then .good (.mk 3 (D.sub k 5) [] []) (k+5)
  else if D.c k=91 then lstRun D (valP D d) (k+1) []
  else if D.c k=123 then tabP D (valP D d) (k+1)
  else (numP D k).leaf
end Go.Proofs.YtpgmddjgcgpoeaaGreat
