/-
  Part 2 of the proof.
-/
import Derived.Test.YtpgmddjgcgpoeaaGreatA01
import Derived.Lib.DecodeN
set_option linter.unusedVariables false
set_option linter.unusedSimpArgs false
namespace Go.Proofs.YtpgmddjgcgpoeaaGreat
/-- How many bytes the sign that begins so has; 0 where it is none that may stand in a text. -/
def sgN (a b c d:Nat):Nat :=
 if a=9∨32≤a∧a<127 then 1
 else if a<194 then 0
 else if a<224 then (if 128≤b∧b≤191 then 2 else 0)
 else if a<240 then (if (128≤b∧b≤191)∧(128≤c∧c≤191)∧(a=224→160≤b)∧(a=237→b≤159) then 3 else 0)
 else if a<245 then (if (128≤b∧b≤191)∧(128≤c∧c≤191)∧(128≤d∧d≤191)∧(a=240→144≤b)∧(a=244→b≤143) then 4 else 0)
 else 0
def sg (D:Doc) (k:Nat):Nat:=sgN (D.c k) (D.c (k+1)) (D.c (k+2)) (D.c (k+3))
/-- A rune's bytes. -/
def encN (r:Nat):List Nat :=
 if r<128 then [r] else if r<2048 then [192+r / 64,128+r % 64] else if r<65536 then [224+r / 4096,128+r / 64 % 64,128+r % 64]
 else [240+r / 262144,128+r / 4096 % 64,128+r / 64 % 64,128+r % 64]
def validN (r:Nat):Prop:=r<55296∨(57344≤r∧r≤1114111)
theorem encode_eq (r:Nat) (h:validN r):Utf8.encode r=⟨((encN r).map UInt8.ofNat).toArray⟩:=by
 have hv:Utf8.valid (r:Int)=true:=by unfold Utf8.valid;unfold validN at h;simp;omega
 unfold Utf8.encode encN
 simp only [hv,if_true,Int.toNat_natCast]
 split <;> (try split) <;> (try split) <;> rfl
set_option maxRecDepth 100000 in
set_option maxHeartbeats 4000000 in
theorem decode_valid (m a b c d:Nat) (ha:a<256) (hb:b<256) (_hc:c<256) (_hd:d<256):validN (Lib.decodeN m a b c d).1:=by
 unfold Lib.decodeN validN
 repeat' split
 all_goals (simp only;omega)
/-- What the reference asks of a sign is what the table says: the rune read, written again, stands there. -/
def again (m a b c d:Nat) (e:List Nat):Bool:=decide (e.length≤m) && (([a,b,c,d].take m).take e.length == e)
set_option maxRecDepth 100000 in
set_option maxHeartbeats 8000000 in
theorem again_good (m a b c d:Nat) (hm:1≤m) (hm4:m≤4) (ha:128≤a) (ha':a<256) (hb:b<256) (hc:c<256) (hd:d<256) (h1:m≤1→b=0) (h2:m≤2→c=0) (h3:m≤3→d=0)
  (hs:sgN a b c d ≠ 0):again m a b c d (encN (Lib.decodeN m a b c d).1)=true∧(encN (Lib.decodeN m a b c d).1).length=sgN a b c d:=by
 have h9:¬ (a=9∨32≤a∧a<127):=by omega
 unfold sgN at hs ⊢
 rw [if_neg h9] at hs ⊢
 by_cases c1:a<194
 ·rw [if_pos c1] at hs;exact absurd rfl hs
 rw [if_neg c1] at hs ⊢
 by_cases c2:a<224
 ·rw [if_pos c2] at hs ⊢
  by_cases k1:128≤b∧b≤191
  ·rw [if_pos k1]
   have e:Lib.decodeN m a b c d=(a % 32 * 64+b % 64,2):=by
    unfold Lib.decodeN
    rw [if_neg (by omega),if_pos (by omega),if_pos (by omega)]
   rw [e]
   have e2:encN (a % 32 * 64+b % 64)=[a,b]:=by
    unfold encN
    rw [if_neg (by omega),if_pos (by omega)]
    congr 1
    ·omega
    ·congr 1;omega
   simp only [e2]
   have hm2:2≤m:=by omega
   obtain rfl | rfl | rfl:m=2∨m=3∨m=4:=by omega
   all_goals simp [again]
  ·rw [if_neg k1] at hs;exact absurd rfl hs
 rw [if_neg c2] at hs ⊢
 by_cases c3:a<240
 ·rw [if_pos c3] at hs ⊢
  by_cases k1:(128≤b∧b≤191)∧(128≤c∧c≤191)∧(a=224→160≤b)∧(a=237→b≤159)
  ·rw [if_pos k1]
   have e:Lib.decodeN m a b c d=(a % 16 * 4096+b % 64 * 64+c % 64,3):=by
    unfold Lib.decodeN
    rw [if_neg (by omega),if_neg (by omega),if_pos (by omega),if_pos (by omega)]
   rw [e]
   have e2:encN (a % 16 * 4096+b % 64 * 64+c % 64)=[a,b,c]:=by
    unfold encN
    rw [if_neg (by omega),if_neg (by omega),if_pos (by omega)]
    congr 1
    ·omega
    ·congr 1
     ·omega
     ·congr 1;omega
   simp only [e2]
   have hm2:3≤m:=by omega
   obtain rfl | rfl:m=3∨m=4:=by omega
   all_goals simp [again]
  ·rw [if_neg k1] at hs;exact absurd rfl hs
 rw [if_neg c3] at hs ⊢
 by_cases c4:a<245
 ·rw [if_pos c4] at hs ⊢
  by_cases k1:(128≤b∧b≤191)∧(128≤c∧c≤191)∧(128≤d∧d≤191)∧(a=240→144≤b)∧(a=244→b≤143)
  ·rw [if_pos k1]
   have e:Lib.decodeN m a b c d=(a % 8 * 262144+b % 64 * 4096+c % 64 * 64+d % 64,4):=by
    unfold Lib.decodeN
    rw [if_neg (by omega),if_neg (by omega),if_neg (by omega),if_pos (by omega),if_pos (by omega)]
   rw [e]
   have e2:encN (a % 8 * 262144+b % 64 * 4096+c % 64 * 64+d % 64)=[a,b,c,d]:=by
    unfold encN
    rw [if_neg (by omega),if_neg (by omega),if_neg (by omega)]
    congr 1
    ·omega
    ·congr 1
     ·omega
     ·congr 1
      ·omega
      ·congr 1;omega
   simp only [e2]
   obtain rfl:m=4:=by omega
   simp [again]
  ·rw [if_neg k1] at hs;exact absurd rfl hs
 ·rw [if_neg c4] at hs;exact absurd rfl hs
set_option maxRecDepth 100000 in
set_option maxHeartbeats 8000000 in
theorem again_bad (m a b c d:Nat) (hm:1≤m) (hm4:m≤4) (ha:128≤a) (ha':a<256) (hb:b<256) (hc:c<256) (hd:d<256) (h1:m≤1→b=0) (h2:m≤2→c=0) (h3:m≤3→d=0)
  (hs:sgN a b c d=0):again m a b c d (encN (Lib.decodeN m a b c d).1)=false:=by
 have h9:¬ (a=9∨32≤a∧a<127):=by omega
 have e:Lib.decodeN m a b c d=(65533,1):=by
  unfold sgN at hs
  rw [if_neg h9] at hs
  unfold Lib.decodeN
  rw [if_neg (by omega)]
  by_cases c1:a<194
  ·by_cases k:a / 32=6∧(1<m∧b / 64=2)
   ·rw [if_pos k,if_neg (by omega)]
   ·rw [if_neg k,if_neg (by omega),if_neg (by omega)]
  rw [if_neg c1] at hs
  by_cases c2:a<224
  ·rw [if_pos c2] at hs
   by_cases k1:128≤b∧b≤191
   ·rw [if_pos k1] at hs;omega
   ·rw [if_neg (by omega),if_neg (by omega),if_neg (by omega)]
  rw [if_neg c2] at hs
  by_cases c3:a<240
  ·rw [if_pos c3] at hs
   by_cases k1:(128≤b∧b≤191)∧(128≤c∧c≤191)∧(a=224→160≤b)∧(a=237→b≤159)
   ·rw [if_pos k1] at hs;omega
   ·rw [if_neg (by omega)]
    by_cases k:a / 16=14∧(1<m∧b / 64=2)∧(2<m∧c / 64=2)
    ·rw [if_pos k,if_neg (by omega)]
    ·rw [if_neg k,if_neg (by omega)]
  rw [if_neg c3] at hs
  by_cases c4:a<245
  ·rw [if_pos c4] at hs
   by_cases k1:(128≤b∧b≤191)∧(128≤c∧c≤191)∧(128≤d∧d≤191)∧(a=240→144≤b)∧(a=244→b≤143)
   ·rw [if_pos k1] at hs;omega
   ·rw [if_neg (by omega),if_neg (by omega)]
    by_cases k:a / 8=30∧(1<m∧b / 64=2)∧(2<m∧c / 64=2)∧(3<m∧d / 64=2)
    ·rw [if_pos k,if_neg (by omega)]
    ·rw [if_neg k]
  ·rw [if_neg (by omega),if_neg (by omega)]
   by_cases k:a / 8=30∧(1<m∧b / 64=2)∧(2<m∧c / 64=2)∧(3<m∧d / 64=2)
   ·rw [if_pos k,if_neg (by omega)]
   ·rw [if_neg k]
 rw [e]
 have e2:encN 65533=[239,191,189]:=by decide
 simp only [e2]
 by_cases h:a=239∧b=191∧c=189
 ·obtain ⟨rfl,rfl,rfl⟩:=h
  exfalso
  revert hs
  simp [sgN]
 ·unfold again
  rw [Bool.and_eq_false_iff]
  by_cases hm3:3≤m
  ·right
   obtain rfl | rfl:m=3∨m=4:=by omega
   all_goals (simp;intro h1 h2 h3;exact h ⟨h1,h2,h3⟩)
  ·left;simp;omega
theorem sgN_cases (a b c d:Nat):sgN a b c d=0∨(sgN a b c d=1∧a ≠ 0∧a<128)∨(sgN a b c d=2∧194≤a∧128≤b)∨(sgN a b c d=3∧194≤a∧128≤b∧128≤c)∨(sgN a b c d=4∧194≤a∧128≤b∧128≤c∧128≤d):=by
 unfold sgN
 (repeat' split) <;> omega
theorem sg_le (D:Doc) (k:Nat):sg D k≤4:=by
 unfold sg
 rcases sgN_cases (D.c k) (D.c (k+1)) (D.c (k+2)) (D.c (k+3)) with h | h | h | h | h <;> omega
/-- A sign that may stand lies in the document. -/
theorem sg_in (D:Doc) (k:Nat) (h:sg D k ≠ 0):k+sg D k≤D.n:=by
 have h1:=Doc.in_of (D:=D) (k:=k)
 have h2:=Doc.in_of (D:=D) (k:=k+1)
 have h3:=Doc.in_of (D:=D) (k:=k+2)
 have h4:=Doc.in_of (D:=D) (k:=k+3)
 unfold sg at h ⊢
 rcases sgN_cases (D.c k) (D.c (k+1)) (D.c (k+2)) (D.c (k+3)) with g | g | g | g | g <;> omega
/-- A remark, from its sign (or within it) on. -/
def cmtRun (D:Doc) (k:Nat):R Unit :=
 if D.n≤k then .good () k else if nlen D k ≠ 0 then .good () k else if sg D k=0 then .bad else cmtRun D (k+sg D k)
termination_by D.n - k
def cmt (D:Doc) (k:Nat):R Unit:=if D.c k=35 then cmtRun D k else .good () k
/-- Blanks, ends of lines and remarks. -/
theorem cmtRun_ge (D:Doc) (k k':Nat) (h:cmtRun D k=.good () k'):k≤k':=by
 induction hm:D.n - k using Nat.strongRecOn generalizing k with
 | _ m ih =>
  rw [cmtRun] at h
  split at h
  ·injection h with _ h;omega
  split at h
  ·injection h with _ h;omega
  split at h
  ·cases h
  ·have:=ih (D.n - (k+sg D k)) (by omega) (k+sg D k) h rfl
   omega
theorem cmt_ge (D:Doc) (k k':Nat) (h:cmt D k=.good () k'):k≤k':=by
 unfold cmt at h
 split at h
 ·exact cmtRun_ge D k k' h
 ·injection h with _ h;omega
theorem cmtRun_le (D:Doc) (k k':Nat) (h:cmtRun D k=.good () k'):k'≤D.n∨k'=k:=by
 induction hm:D.n - k using Nat.strongRecOn generalizing k with
 | _ m ih =>
  rw [cmtRun] at h
  split at h
  ·injection h with _ h;omega
  split at h
  ·injection h with _ h;omega
  split at h
  ·cases h
  ·have h2:=sg_in D k (by omega)
   have:=ih (D.n - (k+sg D k)) (by omega) (k+sg D k) h rfl
   omega
theorem cmt_le (D:Doc) (k k':Nat) (h:cmt D k=.good () k'):k'≤D.n∨k'=k:=by
 unfold cmt at h
 split at h
 ·exact cmtRun_le D k k' h
 ·injection h with _ h;omega
theorem cmt_not_opn (D:Doc) (k:Nat):cmt D k ≠ .opn:=by
 have h:∀ m k,D.n - k=m→cmtRun D k ≠ .opn:=by
  intro m
  induction m using Nat.strongRecOn with
  | _ m ih =>
   intro k hm
   rw [cmtRun]
   split
   ·intro h;cases h
   split
   ·intro h;cases h
   split
   ·intro h;cases h
   ·exact ih (D.n - (k+sg D k)) (by omega) (k+sg D k) rfl
 unfold cmt
 split
 ·exact h _ k rfl
 ·intro h;cases h
/-- Blanks, ends of lines and remarks. -/
def spc (D:Doc) (k:Nat):R Unit :=
 match _h:cmt D (wsEnd D k) with
 | .good _ k2 => if nlen D k2=0 then .good () k2 else spc D (k2+nlen D k2)
 | _ => .bad
termination_by D.n - k
decreasing_by
 have h1:=cmt_ge D _ _ _h
 have h2:=wsEnd_ge D k
 have h3:D.c k2 ≠ 0:=fun e => by rename_i hn;apply hn;unfold nlen;rw [if_neg (by omega),if_neg (by omega)]
 have h4:=Doc.in_of h3
 omega
end Go.Proofs.YtpgmddjgcgpoeaaGreat
