/-
  A part of the proof.
-/
import Derived.Test.YtpgmddjgcgpoeaaGreatRows
import Derived.WalkKit
import Derived.WalkSpells
import Derived.WalkLawsBesides
import Derived.Deep.QuietTactic
import Derived.BigQuiet
import Derived.Lib.Hide
set_option linter.unusedVariables false
set_option linter.unusedSimpArgs false
set_option maxRecDepth 100000
set_option maxHeartbeats 8000000
namespace Go.Proofs.YtpgmddjgcgpoeaaGreat
open Go.RowKit
theorem qqh {p:Prop} (h:p):Go.RowKit.Hid p:=Go.Lib.hid h
theorem qqn {α:Type} [BEq α] [LawfulBEq α] {a b:α} (h:a ≠ b):(a==b)=false:=beq_eq_false_iff_ne.2 h
theorem qqf {p:Prop} [Decidable p] (h:¬p):decide p=false:=decide_eq_false h
theorem qqt {p:Prop} [Decidable p] (h:p):decide p=true:=decide_eq_true h
theorem qql {a b:Nat} (h:a=b):a<=b:=Nat.le_of_eq h
theorem qqg (a b:Nat):a<b\/a>=b:=Nat.lt_or_ge a b
theorem qqa {α:Type} {a b:List α}:(a++b).length=a.length+b.length:=List.length_append
theorem qqr (a:Nat):a<=a:=Nat.le_refl a
structure Doc where
 n:Nat
 c:Nat->Nat
 lt:∀ i,c i<256
 out:∀ i,n<=i->c i=0
 small:n<=1073741824
def Blk (w:World) (b:Nat) (xs:List Value) (t:TypeId):Prop:=w.heap[b]?=some (.cells xs.toArray t (0,0))
theorem Blk.lt {w:World} {b:Nat} {xs:List Value} {t:TypeId} (h:Blk w b xs t):b<w.heap.size :=
 (Array.getElem?_eq_some_iff.1 h).1
theorem Blk.cell {w:World} {b:Nat} {xs:List Value} {t:TypeId} (h:Blk w b xs t) (i:Nat) {v:Value} (hv:xs[i]?=some v):w.cell? ⟨b,i,none⟩=some v:=by
 unfold Blk at h;simp [World.cell?,h,hv]
theorem Blk.free {w:World} {b:Nat} {xs:List Value} {t:TypeId} (h:Blk w b xs t) (i:Nat):w.frozen? ⟨b,i,none⟩=false:=by
 unfold Blk at h;simp [World.frozen?,h]
theorem Blk.put {w:World} {b:Nat} {xs:List Value} {t:TypeId} (h:Blk w b xs t) (i:Nat) (v:Value):Blk (w.setCell ⟨b,i,none⟩ v) b (xs.set i v) t:=by
 unfold Blk at h ⊢;simp [World.setCell,Array.getElem?_modify,h]
theorem Blk.putE {w:World} {b:Nat} {xs ys:List Value} {t:TypeId} (h:Blk w b xs t) (i:Nat) (v:Value) (e:xs.set i v=ys):Blk (w.setCell ⟨b,i,none⟩ v) b ys t:=e ▸ h.put i v
theorem Blk.other {w:World} {b:Nat} {xs:List Value} {t:TypeId} (h:Blk w b xs t) {a:Addr} (ha:b ≠ a.block) (v:Value):Blk (w.setCell a v) b xs t:=by
 unfold Blk at h ⊢;rw [Below.heap_setCell _ _ _ _ ha];exact h
theorem Blk.drewN {w:World} {b:Nat} {xs:List Value} {t:TypeId} (h:Blk w b xs t) (n:Nat):Blk (w.drewN n) b xs t:=h
theorem Blk.drew {w:World} {b:Nat} {xs:List Value} {t:TypeId} (h:Blk w b xs t):Blk w.drew b xs t:=h
theorem Blk.alloc {w:World} {b:Nat} {xs:List Value} {t:TypeId} (h:Blk w b xs t) (o:Obj):Blk (w.alloc o) b xs t:=by
 have:=h.lt;unfold Blk at h ⊢;rw [Below.heap_alloc _ _ _ this];exact h
theorem Blk.new (w:World) (xs:List Value) (t:TypeId):Blk (w.alloc (.cells xs.toArray t)) w.heap.size xs t:=by
 unfold Blk;exact heap_alloc_new w _
structure Kp (S:Nat->Prop) (w w':World):Prop where
 os:w'.os=w.os
 tape:w'.tape=w.tape
 output:w'.output=w.output
 size:w.heap.size<=w'.heap.size
 block:∀ k,k<w.heap.size->¬ S k->w'.heap[k]?=w.heap[k]?
def Only (b:Nat):Nat->Prop:=fun k => k=b
theorem Only.self (b:Nat):Only b b:=rfl
def Nil:Nat->Prop:=fun _ => False
theorem Kp.refl (S:Nat->Prop) (w:World):Kp S w w:=⟨rfl,rfl,rfl,qqr _,fun _ _ _ => rfl⟩
theorem Kp.trans {S:Nat->Prop} {a b c:World} (h:Kp S a b) (k:Kp S b c):Kp S a c :=
 ⟨k.os.trans h.os,k.tape.trans h.tape,k.output.trans h.output,Nat.le_trans h.size k.size,fun i hi hs => (k.block i (Nat.lt_of_lt_of_le hi h.size) hs).trans (h.block i hi hs)⟩
theorem Kp.then {S T:Nat->Prop} {a b c:World} (h:Kp S a b) (k:Kp T b c) (hT:∀ i,T i->S i\/a.heap.size<=i):Kp S a c :=
 ⟨k.os.trans h.os,k.tape.trans h.tape,k.output.trans h.output,Nat.le_trans h.size k.size,fun i hi hs => (k.block i (Nat.lt_of_lt_of_le hi h.size) (fun ht => by rcases hT i ht with h1 | h1;exact hs h1;omega)).trans (h.block i hi hs)⟩
theorem Kp.mono {S T:Nat->Prop} {a b:World} (h:Kp S a b) (hT:∀ i,S i->T i):Kp T a b :=
 ⟨h.os,h.tape,h.output,h.size,fun i hi hs => h.block i hi (fun x => hs (hT i x))⟩
theorem Kp.drewN {S:Nat->Prop} {a w:World} (h:Kp S a w) (n:Nat):Kp S a (w.drewN n):=⟨h.os,h.tape,h.output,h.size,h.block⟩
theorem Kp.drew {S:Nat->Prop} {a w:World} (h:Kp S a w):Kp S a w.drew:=⟨h.os,h.tape,h.output,h.size,h.block⟩
theorem Kp.alloc {S:Nat->Prop} {a w:World} (h:Kp S a w) (o:Obj):Kp S a (w.alloc o) :=
 h.trans ⟨rfl,rfl,rfl,by simp,fun k hk _ => Below.heap_alloc _ _ _ hk⟩
theorem Kp.setCell {S:Nat->Prop} {a w:World} (h:Kp S a w) {p:Addr} (hp:S p.block\/a.heap.size<=p.block) (u:Value):Kp S a (w.setCell p u) :=
 h.then (T:=fun k => k=p.block) ⟨rfl,rfl,rfl,by simp,fun k _ hk => Below.heap_setCell _ _ _ _ hk⟩ (fun i hi => hi ▸ hp)
theorem Kp.grown {S:Nat->Prop} {a w w':World} {row:Option Nat} (h:Kp S a w) (hg:w.grownBy w' row) (hr:∀ k,row=some k->S k\/a.heap.size<=k):Kp S a w' :=
 h.then (T:=fun k => some k=row) ⟨hg.os,hg.tape,hg.output,hg.size,fun k hk hs => hg.block k hk hs⟩ (fun i hi => hr i hi.symm)
theorem Blk.kp {w w':World} {b:Nat} {xs:List Value} {t:TypeId} {S:Nat->Prop} (h:Blk w b xs t) (k:Kp S w w') (hb:¬ S b):Blk w' b xs t:=by
 have:=h.lt;unfold Blk at h ⊢;rw [k.block b this hb];exact h
def DocAt (D:Doc) (A:Option Addr) (C:Nat) (w:World):Prop :=
 D.n<=C/\C<=9223372036854775807/\(D.n=0\/∃ bd o,A=some ⟨bd,o,none⟩/\bd<w.heap.size/\∀ i,i<D.n->w.cell? ⟨bd,o+i,none⟩=some (.int .u8 (D.c i)))
theorem DocAt.of_block {D:Doc} {A:Option Addr} {C:Nat} {w w':World} (h:DocAt D A C w) (hs:w.heap.size<=w'.heap.size) (hb:∀ a,A=some a->a.block<w.heap.size->w'.heap[a.block]?=w.heap[a.block]?):DocAt D A C w':=by
 obtain ⟨h1,h2,h3⟩:=h;refine ⟨h1,h2,h3.imp id ?_⟩;rintro ⟨bd,o,rfl,hlt,hc⟩;refine ⟨bd,o,rfl,by omega,fun i hi => ?_⟩;exact (World.cell?_of_block (w:=w) (a:=⟨bd,o+i,none⟩) (hb ⟨bd,o,none⟩ rfl hlt)).trans (hc i hi)
theorem DocAt.kp {D:Doc} {A:Option Addr} {C:Nat} {S:Nat->Prop} {w w':World} (h:DocAt D A C w) (k:Kp S w w') (hA:∀ a,A=some a->¬ S a.block):DocAt D A C w' :=
 h.of_block k.size fun a ha hl => k.block a.block hl (hA a ha)
structure PS (D:Doc) (bp:Nat) (A:Option Addr) (C:Nat) (w:World) (at_ st:Nat):Prop where
 blk:Blk w bp [.slice A D.n C,.int .i64 at_,.int .i64 st] 56
 doc:DocAt D A C w
 ne:∀ a,A=some a->a.block ≠ bp
theorem PS.drewN {D:Doc} {bp:Nat} {A:Option Addr} {C:Nat} {w:World} {at_ st:Nat} (h:PS D bp A C w at_ st) (n:Nat):PS D bp A C (w.drewN n) at_ st:=⟨h.blk,h.doc,h.ne⟩
theorem PS.setAt {D:Doc} {bp:Nat} {A:Option Addr} {C:Nat} {w:World} {at_ st:Nat} (h:PS D bp A C w at_ st) (k:Int) (k':Nat) (e:k=(k':Int)):PS D bp A C (w.setCell ⟨bp,1,none⟩ (.int .i64 k)) k' st :=
 ⟨by subst e;exact h.blk.put 1 _,h.doc.of_block (by simp) fun a ha _ => Below.heap_setCell _ _ _ _ (h.ne a ha),h.ne⟩
theorem PS.setSt {D:Doc} {bp:Nat} {A:Option Addr} {C:Nat} {w:World} {at_ st:Nat} (h:PS D bp A C w at_ st) (k:Int) (k':Nat) (e:k=(k':Int)):PS D bp A C (w.setCell ⟨bp,2,none⟩ (.int .i64 k)) at_ k' :=
 ⟨by subst e;exact h.blk.put 2 _,h.doc.of_block (by simp) fun a ha _ => Below.heap_setCell _ _ _ _ (h.ne a ha),h.ne⟩
theorem PS.kp {D:Doc} {bp:Nat} {A:Option Addr} {C:Nat} {S:Nat->Prop} {w w':World} {at_ st:Nat} (h:PS D bp A C w at_ st) (k:Kp S w w') (hb:¬ S bp) (hA:∀ a,A=some a->¬ S a.block):PS D bp A C w' at_ st :=
 ⟨h.blk.kp k hb,h.doc.kp k hA,h.ne⟩
theorem PS.alloc {D:Doc} {bp:Nat} {A:Option Addr} {C:Nat} {w:World} {at_ st:Nat} (h:PS D bp A C w at_ st) (o:Obj):PS D bp A C (w.alloc o) at_ st :=
 h.kp (S:=fun _ => False) ((Kp.refl _ _).alloc o) (fun x => x) (fun _ _ x => x)
theorem PS.c0 {D:Doc} {bp:Nat} {A:Option Addr} {C:Nat} {w:World} {at_ st:Nat} (h:PS D bp A C w at_ st):w.cell? ⟨bp,0,none⟩=some (.slice A D.n C):=h.blk.cell 0 rfl
theorem PS.c1 {D:Doc} {bp:Nat} {A:Option Addr} {C:Nat} {w:World} {at_ st:Nat} (h:PS D bp A C w at_ st):w.cell? ⟨bp,1,none⟩=some (.int .i64 at_):=h.blk.cell 1 rfl
theorem PS.c2 {D:Doc} {bp:Nat} {A:Option Addr} {C:Nat} {w:World} {at_ st:Nat} (h:PS D bp A C w at_ st):w.cell? ⟨bp,2,none⟩=some (.int .i64 st):=h.blk.cell 2 rfl
theorem PS.f {D:Doc} {bp:Nat} {A:Option Addr} {C:Nat} {w:World} {at_ st:Nat} (h:PS D bp A C w at_ st) (i:Nat):w.frozen? ⟨bp,i,none⟩=false:=h.blk.free i
theorem PS.byte {D:Doc} {bp:Nat} {A:Option Addr} {C:Nat} {w:World} {at_ st:Nat} (h:PS D bp A C w at_ st) {i:Nat} (hi:i<D.n):∃ bd o,A=some ⟨bd,o,none⟩/\∀ i,i<D.n->w.cell? ⟨bd,o+i,none⟩=some (.int .u8 (D.c i)):=by
 obtain ⟨_,_,h | ⟨bd,o,hA,_,hc⟩⟩:=h.doc
 ·omega
 ·exact ⟨bd,o,hA,hc⟩
theorem Kp.putOnly {b i:Nat} {a w:World} (h:Kp (Only b) a w) (u:Value):Kp (Only b) a (w.setCell ⟨b,i,none⟩ u):=h.setCell (p:=⟨b,i,none⟩) (.inl rfl) u
theorem Blk.kpOnly {w w':World} {b c:Nat} {xs:List Value} {t:TypeId} (h:Blk w b xs t) (k:Kp (Only c) w w') (hb:b ≠ c):Blk w' b xs t:=h.kp k hb
theorem Blk.kpNil {w w':World} {b:Nat} {xs:List Value} {t:TypeId} (h:Blk w b xs t) (k:Kp Nil w w'):Blk w' b xs t:=h.kp k (fun x => x)
def left (D:Doc) (bp:Nat) (w:World):Nat:=match w.cell? ⟨bp,1,none⟩ with | some (.int _ q) => D.n - q.toNat | _ => 0
theorem PS.left {D:Doc} {bp:Nat} {A:Option Addr} {C:Nat} {w:World} {at_ st:Nat} (h:PS D bp A C w at_ st):left D bp w=D.n - at_:=by
 unfold YtpgmddjgcgpoeaaGreat.left;rw [h.c1];simp
inductive R (α:Type) where
 | good (a:α) (k:Nat)
 | bad
 | opn
def failSt (st:Nat):Nat:=if st=0 then 1 else st
def R.st {α:Type} (r:R α) (st:Nat):Nat:=match r with | .good _ _ => st | .bad => failSt st | .opn => 2
def R.pos {α:Type} (r:R α) (D:Doc):Nat:=match r with | .good _ k => k | _ => D.n
theorem Doc.in_of {D:Doc} {k:Nat} (h:D.c k ≠ 0):k<D.n:=by
 rcases qqg k D.n with h' | h'
 ·exact h'
 ·exact absurd (D.out k h') h
def wsEnd (D:Doc) (k:Nat):Nat:=if D.c k=32\/D.c k=9 then wsEnd D (k+1) else k
termination_by D.n - k
decreasing_by have:=Doc.in_of (D:=D) (k:=k) (by omega);omega
theorem wsEnd_go {D:Doc} {k:Nat} (h:D.c k=32\/D.c k=9):wsEnd D k=wsEnd D (k+1):=by rw [wsEnd,if_pos h]
theorem wsEnd_stop {D:Doc} {k:Nat} (h:¬ (D.c k=32\/D.c k=9)):wsEnd D k=k:=by rw [wsEnd,if_neg h]
theorem wsEnd_ge (D:Doc) (k:Nat):k<=wsEnd D k:=by
 induction hm:D.n - k using Nat.strongRecOn generalizing k with
 | _ m ih =>
  by_cases h:D.c k=32\/D.c k=9
  ·have:=Doc.in_of (D:=D) (k:=k) (by omega);rw [wsEnd_go h];have:=ih (D.n - (k+1)) (by omega) (k+1) rfl;omega
  ·rw [wsEnd_stop h];exact qqr _
theorem wsEnd_le (D:Doc) (k:Nat):wsEnd D k<=D.n\/wsEnd D k=k:=by
 induction hm:D.n - k using Nat.strongRecOn generalizing k with
 | _ m ih =>
  by_cases h:D.c k=32\/D.c k=9
  ·have:=Doc.in_of (D:=D) (k:=k) (by omega);rw [wsEnd_go h];have:=ih (D.n - (k+1)) (by omega) (k+1) rfl;omega
  ·rw [wsEnd_stop h];exact .inr rfl
theorem wsEnd_not (D:Doc) (k:Nat):¬ (D.c (wsEnd D k)=32\/D.c (wsEnd D k)=9):=by
 induction hm:D.n - k using Nat.strongRecOn generalizing k with
 | _ m ih =>
  by_cases h:D.c k=32\/D.c k=9
  ·have:=Doc.in_of (D:=D) (k:=k) (by omega);rw [wsEnd_go h];exact ih (D.n - (k+1)) (by omega) (k+1) rfl
  ·rw [wsEnd_stop h];exact h
def dval (x:Nat):Nat:=if 48<=x/\x<=57 then x - 48 else if 97<=x/\x<=102 then x - 87 else if 65<=x/\x<=70 then x - 55 else 99
def dgN (D:Doc) (base:Nat) (k:Nat):Nat:=if dval (D.c k)<base/\k<D.n then dgN D base (k+1)+1 else 0
termination_by D.n - k
theorem dgN_go {D:Doc} {base k:Nat} (h:dval (D.c k)<base) (hk:k<D.n):dgN D base k=dgN D base (k+1)+1:=by rw [dgN,if_pos ⟨h,hk⟩]
theorem dgN_stop {D:Doc} {base k:Nat} (h:base<=dval (D.c k)):dgN D base k=0:=by rw [dgN,if_neg (by omega)]
theorem dval_0:dval 0=99:=rfl
theorem dgN_le (D:Doc) (base k:Nat):dgN D base k<=D.n - k:=by
 induction hm:D.n - k using Nat.strongRecOn generalizing k with
 | _ m ih =>
  rw [dgN];split
  ·rename_i h;have:=ih (D.n - (k+1)) (by omega) (k+1) rfl;omega
  ·omega
def nlen (D:Doc) (k:Nat):Nat:=if D.c k=10 then 1 else if D.c k=13/\D.c (k+1)=10 then 2 else 0
def Doc.sub (D:Doc) (a m:Nat):List UInt8:=(List.range m).map fun i => UInt8.ofNat (D.c (a+i))
theorem Doc.sub_length (D:Doc) (a m:Nat):(D.sub a m).length=m:=by simp [Doc.sub]
theorem Doc.sub_get (D:Doc) (a m j:Nat) (h:j<(D.sub a m).length):(D.sub a m)[j]=UInt8.ofNat (D.c (a+j)):=by simp [Doc.sub]
theorem Doc.toNat_ofNat (D:Doc) (i:Nat):(UInt8.ofNat (D.c i)).toNat=D.c i:=by
 have:=D.lt i;simpa [UInt8.toNat_ofNat'] using this
theorem Doc.sub_succ (D:Doc) (a m:Nat):D.sub a (m+1)=UInt8.ofNat (D.c a) :: D.sub (a+1) m:=by
 simp [Doc.sub,List.range_succ_eq_map,Function.comp_def,Nat.add_comm,Nat.add_left_comm]
theorem Doc.sub_zero (D:Doc) (a:Nat):D.sub a 0=[]:=rfl
theorem Doc.sub_add (D:Doc) (a m j:Nat):D.sub a (m+j)=D.sub a m++D.sub (a+m) j:=by
 induction m generalizing a with
 | zero => simp [Doc.sub_zero]
 | succ m ih => rw [show m+1+j=(m+j)+1 by omega,Doc.sub_succ,Doc.sub_succ,ih,List.cons_append,show a+1+m=a+(m+1) by omega]
def hasB (D:Doc) (k:Nat) (s:List UInt8):Bool:=decide (k+s.length<=D.n) && (D.sub k s.length == s)
def hasAll (D:Doc):Nat->List UInt8->Bool
 | _,[] => true
 | k,x :: l => D.c k == x.toNat && hasAll D (k+1) l
theorem hasAll_eq (D:Doc):∀ (l:List UInt8) (k:Nat),hasAll D k l=(D.sub k l.length == l)
 | [],k => by simp [hasAll,Doc.sub_zero]
 | x :: l,k => by
  rw [hasAll,hasAll_eq D l,List.length_cons,Doc.sub_succ,List.cons_beq_cons]
  congr 1
  rw [Bool.eq_iff_iff,beq_iff_eq,beq_iff_eq];constructor
  ·intro h;rw [h];simp
  ·intro h;rw [<- h,Doc.toNat_ofNat]
theorem hasB_all (D:Doc) (k:Nat) (l:List UInt8) (hl:∀ x ∈ l,x ≠ 0) (hk:k<=D.n):hasB D k l=hasAll D k l:=by
 unfold hasB;rw [<- hasAll_eq]
 suffices h:hasAll D k l=true->k+l.length<=D.n by
  by_cases h2:hasAll D k l=true
  ·simp [h2,h h2]
  ·simp [h2]
 induction l generalizing k with
 | nil => intro _;simpa using hk
 | cons x l ih =>
  intro h;simp only [hasAll,Bool.and_eq_true,beq_iff_eq] at h;have hx:x.toNat ≠ 0:=fun e => hl x (by simp) (UInt8.toNat_inj.1 (by simpa using e))
  have hin:=Doc.in_of (D:=D) (k:=k) (by omega);have:=ih (k+1) (fun y hy => hl y (by simp [hy])) (by omega) h.2;simp only [List.length_cons];omega
theorem hasB_past (D:Doc) (k:Nat) (l:List UInt8) (hl:0<l.length) (hk:D.n<=k):hasB D k l=false:=by
 unfold hasB;simp;omega
def twoRun (D:Doc) (k:Nat) (v:Nat):Nat->Int
 | 0 => v
 | m+1 => if 48<=D.c k/\D.c k<=57 then twoRun D (k+1) (10 * v+(D.c k - 48)) m else -1
def grp (D:Doc) (base:Nat) (k:Nat):Nat :=
 if dgN D base k=0 then 0
 else if _h:D.c (k+dgN D base k)=95 then (if grp D base (k+dgN D base k+1)=0 then 0 else dgN D base k+1+grp D base (k+dgN D base k+1))
 else dgN D base k
termination_by D.n - k
decreasing_by all_goals
 have:=Doc.in_of (D:=D) (k:=k+dgN D base k) (by omega);omega
def clkN (D:Doc) (k:Nat):Nat :=
 if twoRun D k 0 2<0 then 0 else if D.c (k+2) ≠ 58 then 0 else if twoRun D (k+3) 0 2<0 then 0 else if D.c (k+5) ≠ 58 then 0 else if twoRun D (k+6) 0 2<0 then 0
 else if D.c (k+8)=46 then (if dgN D 10 (k+9)=0 then 0 else 9+dgN D 10 (k+9)) else 8
def clkB (D:Doc) (k:Nat):Bool:=decide (clkN D k ≠ 0) && (decide (twoRun D k 0 2<24) && decide (twoRun D (k+3) 0 2<60) && decide (twoRun D (k+6) 0 2<60))
def monthP (y m:Int):Int:=if m=2/\y % 4=0/\(y % 100 ≠ 0\/y % 400=0) then 29 else if m=2 then 28 else if m=4\/m=6\/m=9\/m=11 then 30 else 31
def bareB (x:Nat):Bool:=decide (48<=x/\x<=57\/97<=x/\x<=122\/65<=x/\x<=90\/x=95\/x=45)
theorem peek_c (D:Doc) (bp:Nat) (A:Option Addr) (C:Nat) (at_ st:Nat) (k:Int) (w:World) (hp:PS D bp A C w at_ st) (hat:at_<=2147483648) (hk:0<=k) (hk2:k<=2147483648) :
  Calls Tryz.prog 20 #[.pointer (some ⟨bp,0,none⟩),.int .i64 k] w fun e w' => e=.returned (.int .u8 (D.c (at_+k.toNat)))/\∃ nq,w'=w.drewN nq:=by
 have h0:=hp.c0;have h1:=hp.c1;have hs:=D.small;obtain ⟨k,rfl⟩:=Int.eq_ofNat_of_zero_le hk;rw [Int.toNat_natCast];by_cases hlt:at_+k<D.n
 ·obtain ⟨bd,o,rfl,hc⟩:=hp.byte hlt;have hc:=hc _ hlt;rw [<- Nat.add_assoc] at hc;have hlt':(at_:Int)+(k:Int)<(D.n:Int):=by omega
  clear hp;go_enter Tryz.func20,Tryz.ntmps20
  go_wp2
  go_quiet (fail)
  go_wp2
  go_quiet (fail)
  go_wp2
  go_ret;exact ⟨rfl,_,World.drewN_drewN _ _ _⟩
 ·have hc:=D.out (at_+k) (by omega);have hlt':decide ((at_:Int)+(k:Int)<(D.n:Int))=false:=qqf (by omega);clear hp;go_enter Tryz.func20,Tryz.ntmps20
  go_wp2
  go_quiet (fail)
  go_wp2
  go_ret;exact ⟨by simp [hc],_,rfl⟩
theorem fail_c (D:Doc) (bp:Nat) (A:Option Addr) (C:Nat) (at_ st:Nat) (w:World) (hp:PS D bp A C w at_ st) :
  Calls Tryz.prog 23 #[.pointer (some ⟨bp,0,none⟩)] w fun e w' => e=.returned (.tuple #[])/\PS D bp A C w' D.n (failSt st)/\Kp (Only bp) w w':=by
 have h0:=hp.c0;have h1:=hp.c1;have h2:=hp.c2;have f1:=hp.f 1;have f2:=hp.f 2;have hs:=D.small;by_cases hst:st=0
 ·subst hst;go_enter Tryz.func23,Tryz.ntmps23
  go_wp2
  go_end0
  exact ⟨rfl,(hp.setSt 1 1 rfl).setAt _ D.n rfl,((Kp.refl _ _).putOnly _).putOnly _⟩
 ·have hst':((st:Int) == 0)=false:=qqn (by omega);go_enter Tryz.func23,Tryz.ntmps23
  go_wp2
  go_end0
  unfold failSt;rw [if_neg hst];exact ⟨rfl,hp.setAt _ D.n rfl,(Kp.refl _ _).putOnly _⟩
theorem open_c (D:Doc) (bp:Nat) (A:Option Addr) (C:Nat) (at_ st:Nat) (w:World) (hp:PS D bp A C w at_ st) :
  Calls Tryz.prog 45 #[.pointer (some ⟨bp,0,none⟩)] w fun e w' => e=.returned (.tuple #[])/\PS D bp A C w' D.n 2/\Kp (Only bp) w w':=by
 have h0:=hp.c0;have h1:=hp.c1;have h2:=hp.c2;have f1:=hp.f 1;have f2:=hp.f 2;have hs:=D.small;go_enter Tryz.func45,Tryz.ntmps45
 go_wp2
 go_end0
 exact ⟨rfl,(hp.setSt 2 2 rfl).setAt _ D.n rfl,((Kp.refl _ _).putOnly _).putOnly _⟩
theorem blanks_c (D:Doc) (bp:Nat) (A:Option Addr) (C:Nat) (at_ st:Nat) (w:World) (hp:PS D bp A C w at_ st) (hat:at_<=1500000000) :
  Calls Tryz.prog 19 #[.pointer (some ⟨bp,0,none⟩)] w fun e w' => e=.returned (.tuple #[])/\PS D bp A C w' (wsEnd D at_) st/\Kp (Only bp) w w':=by
 have hs:=D.small;have HP:=qqh hp;clear hp;go_enter Tryz.func19,Tryz.ntmps19;go_wp2_with fail
 go_loopw [2] (fun _ wr => ∃ k,at_<=k/\(k=at_\/k<=D.n)/\Hid (wsEnd D k=wsEnd D at_)/\Hid (PS D bp A C wr k st)/\Hid (Kp (Only bp) w wr)) (fun _ wr => left D bp wr)
 case atStart => exact ⟨at_,by omega,by omega,rfl,HP.out,Kp.refl _ _⟩
 case round =>
  obtain ⟨k,hk1,hk2,hw,hp,hkp⟩:=hrel;have h1:=hp.out.c1;have f1:=hp.out.f 1;by_cases hc:D.c k=32\/D.c k=9
  ·have hin:=Doc.in_of (D:=D) (k:=k) (by omega);rcases hc with hc | hc
   all_goals
    go_wp2_with (go_at_call 20;refine (peek_c D bp A C k st 0 _ (by first | exact hp.out | exact hp.out.drewN _) (by omega) (by omega) (by omega)).mono ?_;rintro e w1 ⟨rfl,nq,rfl⟩;simp only [Int.toNat_zero,Nat.add_zero])
    go_roundw
    case rel => exact ⟨k+1,by omega,by omega,by rw [<- hw.out];exact (wsEnd_go (by omega)).symm,PS.setAt (hp.out.drewN _) _ (k+1) (by omega),Kp.putOnly (hkp.out.drewN _) _⟩
    case measure => rw [hp.out.left,(PS.setAt (hp.out.drewN _) _ (k+1) (by omega)).left];omega
  ·have e1:((D.c k:Int) == 32)=false:=qqn (by omega);have e2:((D.c k:Int) == 9)=false:=qqn (by omega);go_wp2_with (go_at_call 20;refine (peek_c D bp A C k st 0 _ (by first | exact hp.out | exact hp.out.drewN _) (by omega) (by omega) (by omega)).mono ?_;rintro e w1 ⟨rfl,nq,rfl⟩;simp only [Int.toNat_zero,Nat.add_zero])
   go_end0
   rw [<- hw.out,wsEnd_stop hc];exact ⟨rfl,hp.out.drewN _,hkp.out.drewN _⟩
theorem conv_doc (D:Doc) (bd o a m C:Nat) (w:World) (hc:∀ i,i<D.n->w.cell? ⟨bd,o+i,none⟩=some (.int .u8 (D.c i))) (hm:a+m<=D.n) :
  (convert 22 9 (.slice (some ⟨bd,o+a,none⟩) m C)).run Tryz.prog w=.ok (.string ⟨(D.sub a m).toArray⟩) w:=by
 have h:=run_convert_bytes_back (P:=Tryz.prog) w 22 9 5 ⟨bd,o+a,none⟩ C (D.sub a m) Tryz.underlying22 Tryz.underlying5 Tryz.underlying9 (fun j hj => by
  have hj':j<m:=by rw [Doc.sub_length] at hj;exact hj
  rw [show (⟨bd,o+a,none⟩:Addr).add j=⟨bd,o+(a+j),none⟩ by unfold Addr.add;simp [Nat.add_assoc]]
  rw [hc (a+j) (by omega),Doc.sub_get,Doc.toNat_ofNat])
 rw [Doc.sub_length] at h;exact h
theorem has_c (D:Doc) (bp:Nat) (A:Option Addr) (C:Nat) (at_ st:Nat) (l:List UInt8) (w:World) (hp:PS D bp A C w at_ st) (hat:at_<=1500000000) (hl:0<l.length) (hl2:l.length<=1000) :
  Calls Tryz.prog 22 #[.pointer (some ⟨bp,0,none⟩),.string ⟨l.toArray⟩] w fun e w' => e=.returned (.bool (hasB D at_ l))/\∃ nq,w'=w.drewN nq:=by
 have h0:=hp.c0;have h1:=hp.c1;have hs:=D.small;have hC1:=hp.doc.1;have hC2:=hp.doc.2.1;by_cases hlt:at_+l.length<=D.n
 ·obtain ⟨bd,o,rfl,hc⟩:=hp.byte (i:=at_) (by omega);have hcv:∀ (nq q:Nat),(convert 22 9 (.slice (some ⟨bd,o+at_,none⟩) l.length q)).run Tryz.prog (w.drewN nq)=.ok (.string ⟨(D.sub at_ l.length).toArray⟩) (w.drewN nq):=fun nq q => conv_doc D bd o at_ l.length q _ hc hlt
  have hlt':(at_:Int)+(l.length:Int)<=(D.n:Int):=by omega
  have hne:¬ C=at_:=by omega
  have hfin:hasB D at_ l=(D.sub at_ l.length == l):=by unfold hasB;simp [hlt]
  have HF:=qqh hfin;clear hp hc hlt hfin;go_enter Tryz.func22,Tryz.ntmps22
  go_wp2
  go_quiet (fail)
  go_wp2
  go_ret;exact ⟨by rw [HF.out];simp,_,rfl⟩
 ·have hfin:hasB D at_ l=false:=by unfold hasB;simp;omega
  have hlt':decide ((at_:Int)+(l.length:Int)<=(D.n:Int))=false:=qqf (by omega);rw [hfin];clear hp hfin;go_enter Tryz.func22,Tryz.ntmps22
  go_wp2
  go_quiet (fail)
  go_wp2
  go_ret;exact ⟨rfl,_,rfl⟩
theorem has_nl (D:Doc) (k:Nat):hasB D k [10]=decide (D.c k=10):=by
 unfold hasB;by_cases h:D.c k=10
 ·have:=Doc.in_of (D:=D) (k:=k) (by omega);simp [Doc.sub_succ,Doc.sub_zero,h];omega
 ·simp only [List.length_cons,List.length_nil,Nat.zero_add,Doc.sub_succ,Doc.sub_zero];simp [h];intro _ h';have:=congrArg UInt8.toNat h';rw [Doc.toNat_ofNat] at this;exact h this
theorem has_crnl (D:Doc) (k:Nat):hasB D k [13,10]=decide (D.c k=13/\D.c (k+1)=10):=by
 rcases qqg D.n k with hk | hk
 ·rw [hasB_past D k _ (by simp) (by omega),D.out k (by omega)];simp
 ·rw [hasB_all D k _ (by simp) hk];by_cases h1:D.c k=13 <;> by_cases h2:D.c (k+1)=10 <;> simp [hasAll,h1,h2]
theorem line_c (D:Doc) (bp:Nat) (A:Option Addr) (C:Nat) (at_ st:Nat) (w:World) (hp:PS D bp A C w at_ st) (hat:at_<=1500000000) :
  Calls Tryz.prog 26 #[.pointer (some ⟨bp,0,none⟩)] w fun e w' => e=.returned (.bool (decide (nlen D at_ ≠ 0)))/\PS D bp A C w' (at_+nlen D at_) st/\Kp (Only bp) w w':=by
 have h1:=hp.c1;have f1:=hp.f 1;have hs:=D.small;have HP:=qqh hp;clear hp;by_cases c1:D.c at_=10
 ·have e1:hasB D at_ [10]=true:=by rw [has_nl];simp [c1]
  have en:Hid (nlen D at_=1):=by show _=_;unfold nlen;rw [if_pos c1]
  go_enter Tryz.func26,Tryz.ntmps26;go_wp2_with (go_at_call 22;refine (has_c D bp A C at_ st _ _ HP.out (by omega) (by simp) (by simp)).mono ?_;rintro e w1 ⟨rfl,nq,rfl⟩)
  go_ret;rw [en.out];exact ⟨rfl,PS.setAt (HP.out.drewN _) _ (at_+1) (by omega),Kp.putOnly ((Kp.refl _ _).drewN _) _⟩
 ·have e1:hasB D at_ [10]=false:=by rw [has_nl];simp [c1]
  by_cases c2:D.c at_=13/\D.c (at_+1)=10
  ·have e2:hasB D at_ [13,10]=true:=(by rw [has_crnl];simp [c2]);have en:Hid (nlen D at_=2):=(by show _=_;unfold nlen;rw [if_neg c1,if_pos c2]);clear c2;go_enter Tryz.func26,Tryz.ntmps26;go_wp2_with (go_at_call 22;refine (has_c D bp A C at_ st _ _ (by first | exact HP.out | exact HP.out.drewN _) (by omega) (by simp) (by simp)).mono ?_;rintro e w1 ⟨rfl,nq,rfl⟩)
   go_ret;rw [en.out];exact ⟨rfl,PS.setAt (HP.out.drewN _) _ (at_+2) (by omega),Kp.putOnly ((Kp.refl _ _).drewN _) _⟩
  ·have e2:hasB D at_ [13,10]=false:=(by rw [has_crnl];simp [c2]);have en:Hid (nlen D at_=0):=(by show _=_;unfold nlen;rw [if_neg c1,if_neg c2]);clear c2;go_enter Tryz.func26,Tryz.ntmps26;go_wp2_with (go_at_call 22;refine (has_c D bp A C at_ st _ _ (by first | exact HP.out | exact HP.out.drewN _) (by omega) (by simp) (by simp)).mono ?_;rintro e w1 ⟨rfl,nq,rfl⟩)
   go_ret;rw [en.out];exact ⟨rfl,HP.out.drewN _,(Kp.refl _ _).drewN _⟩
theorem digits_c (D:Doc) (bp:Nat) (A:Option Addr) (C:Nat) (at_ st:Nat) (n base:Int) (w:World) (hp:PS D bp A C w at_ st) (hat:at_<=1500000000) (hn:0<=n) (hn2:n<=1500000000) (hb:0<=base) (hb2:base<=16) :
  Calls Tryz.prog 86 #[.pointer (some ⟨bp,0,none⟩),.int .i64 n,.int .i64 base] w fun e w' => e=.returned (.int .i64 (dgN D base.toNat (at_+n.toNat):Nat))/\∃ nq,w'=w.drewN nq:=by
 have hs:=D.small;have HP:=qqh hp;clear hp;obtain ⟨n,rfl⟩:=Int.eq_ofNat_of_zero_le hn;obtain ⟨b,rfl⟩:=Int.eq_ofNat_of_zero_le hb;rw [Int.toNat_natCast,Int.toNat_natCast];go_enter Tryz.func86,Tryz.ntmps86;go_wp2_with fail
 go_loopw [7] (fun t wr => ∃ k nq:Nat,t=.int .i64 k/\k<=D.n/\Hid (dgN D b (at_+n)=k+dgN D b (at_+n+k))/\Hid (wr=w.drewN nq)) (fun t _ => D.n - (intOf t).toNat)
 case atStart => exact ⟨0,0,rfl,by omega,by show _=_;simp,by show _=_;rfl⟩
 case round =>
  obtain ⟨k,nq,rfl,hk,hd,hw⟩:=hrel;have hdle:=dgN_le D b (at_+n);have hk':k<=D.n - (at_+n):=by have:=hd.out;omega
  obtain rfl:=hw.out;clear hw;have hx:Hid (at_+(n+k)=at_+n+k):=by show _=_;omega
  have hcl:=D.lt (at_+n+k);have hin:¬ (at_+n+k<D.n)->D.c (at_+n+k)=0:=fun h => D.out _ (by omega)
  have Hin:=qqh hin;clear hin;go_wp2_with (go_at_call 20;refine (peek_c D bp A C at_ st (n+k:Nat) _ (by first | exact HP.out.drewN _) (by omega) (by omega) (by omega)).mono ?_;rintro e w1 ⟨rfl,nq,rfl⟩;rw [Int.toNat_natCast,hx.out])
  all_goals
   have hv:(dval (D.c (at_+n+k))<b/\at_+n+k<D.n)\/b<=dval (D.c (at_+n+k)):=by
    by_cases hi:at_+n+k<D.n
    ·unfold dval;split <;> (try split) <;> (try split) <;> omega
    ·rw [Hin.out hi,dval_0];omega
   unfold dval at hv
   first
   | (
     go_roundw
     case rel =>
      refine ⟨k+1,_,by go_num,?_,?_,rfl⟩
      ·rcases hv with ⟨_,h⟩ | h
       ·omega
       ·exfalso;revert h;split <;> (try split) <;> (try split) <;> omega
      ·show _=_
       rcases hv with ⟨h1,h⟩ | h
       ·have h1':dval (D.c (at_+n+k))<b:=h1
        rw [hd.out,dgN_go h1' h];show _=k+1+dgN D b (at_+n+k+1);omega
       ·exfalso;revert h;split <;> (try split) <;> (try split) <;> omega
     case measure =>
      simp [intOf]
      rcases hv with ⟨_,h⟩ | h
      ·omega
      ·exfalso;revert h;split <;> (try split) <;> (try split) <;> omega)
   | (
     go_ret
     have h2:b<=dval (D.c (at_+n+k)):=by unfold dval;split <;> (try split) <;> (try split) <;> omega
     exact ⟨by rw [hd.out,dgN_stop h2];rfl,_,rfl⟩)
theorem two_c (D:Doc) (bp:Nat) (A:Option Addr) (C:Nat) (at_ st:Nat) (n f:Int) (w:World) (hp:PS D bp A C w at_ st) (hat:at_<=1500000000) (hn:0<=n) (hn2:n<=1500000000) (hf:0<=f) (hf2:f<=4) :
  Calls Tryz.prog 71 #[.pointer (some ⟨bp,0,none⟩),.int .i64 n,.int .i64 f] w fun e w' => e=.returned (.int .i64 (twoRun D (at_+n.toNat) 0 f.toNat))/\∃ nq,w'=w.drewN nq:=by
 have hs:=D.small;have HP:=qqh hp;clear hp;obtain ⟨n,rfl⟩:=Int.eq_ofNat_of_zero_le hn;obtain ⟨f,rfl⟩:=Int.eq_ofNat_of_zero_le hf;rw [Int.toNat_natCast,Int.toNat_natCast];go_enter Tryz.func71,Tryz.ntmps71;go_wp2_with fail
 go_loopw [7,11] (fun t i wr => ∃ v k nq:Nat,t=.int .i64 v/\i=.int .i64 k/\k<=f/\Hid ((k=0/\v=0)\/(k=1/\v<10)\/(k=2/\v<100)\/(k=3/\v<1000)\/(k=4/\v<10000))/\Hid (twoRun D (at_+n) 0 f=twoRun D (at_+n+k) v (f - k))/\Hid (wr=w.drewN nq)) (fun _ i _ => f - (intOf i).toNat)
 case atStart => exact ⟨0,0,0,rfl,rfl,by omega,by show _\/_;simp,by show _=_;simp,by show _=_;rfl⟩
 case round =>
  obtain ⟨v,k,nq,rfl,rfl,hk,hv,hd,hw⟩:=hrel;obtain rfl:=hw.out;clear hw;have hvb:v<10000:=by have:=hv.out;omega
  have hx:Hid (at_+(n+k)=at_+n+k):=by show _=_;omega
  have hcl:=D.lt (at_+n+k);by_cases hkf:k<f
  ·obtain ⟨m,hm⟩:∃ m,Hid (f - k=m+1):=⟨f - k - 1,by show _=_;omega⟩;have hr:Hid (twoRun D (at_+n+k) v (f - k)=if 48<=D.c (at_+n+k)/\D.c (at_+n+k)<=57 then twoRun D (at_+n+k+1) (10 * v+(D.c (at_+n+k) - 48)) m else -1):=(by show _=_;rw [hm.out,twoRun]);by_cases g1:48<=D.c (at_+n+k)/\D.c (at_+n+k)<=57
   ·have hr2:Hid (twoRun D (at_+n+k) v (f - k)=twoRun D (at_+n+k+1) (10 * v+(D.c (at_+n+k) - 48)) m):=(by show _=_;rw [hr.out,if_pos g1]);obtain ⟨g1,g2⟩:=g1;go_wp2_with (go_at_call 20;refine (peek_c D bp A C at_ st (n+k:Nat) _ (by first | exact HP.out.drewN _) (by omega) (by omega) (by omega)).mono ?_;rintro e w1 ⟨rfl,nq,rfl⟩;rw [Int.toNat_natCast,hx.out])
    go_roundw
    case rel => exact ⟨10 * v+(D.c (at_+n+k) - 48),k+1,_,by congr 1;omega,by go_num,by omega,by show _\/_;have:=hv.out;omega,by show _=_;rw [hd.out,hr2.out,show f - (k+1)=m by have:=hm.out;omega];rfl,rfl⟩
    case measure => simp [intOf];omega
   ·have hr2:Hid (twoRun D (at_+n+k) v (f - k)=-1):=(by show _=_;rw [hr.out,if_neg g1]);go_wp2_with (go_at_call 20;refine (peek_c D bp A C at_ st (n+k:Nat) _ (by first | exact HP.out.drewN _) (by omega) (by omega) (by omega)).mono ?_;rintro e w1 ⟨rfl,nq,rfl⟩;rw [Int.toNat_natCast,hx.out])
    all_goals first | (exfalso;omega) | (go_ret;exact ⟨by rw [hd.out,hr2.out];rfl,_,rfl⟩)
  ·obtain rfl:k=f:=(by omega);go_wp2_with (go_at_call 20;refine (peek_c D bp A C at_ st (n+k:Nat) _ (by first | exact HP.out.drewN _) (by omega) (by omega) (by omega)).mono ?_;rintro e w1 ⟨rfl,nq,rfl⟩;rw [Int.toNat_natCast,hx.out])
   go_ret;exact ⟨by rw [hd.out,Nat.sub_self,twoRun];rfl,_,rfl⟩
theorem ret_bool {a b:Bool} (h:a=b):Ending.returned (.bool a)=.returned (.bool b):=by rw [h]
theorem ret_int {k:IntKind} {a b:Int} (h:a=b):Ending.returned (.int k a)=.returned (.int k b):=by rw [h]
theorem bare_c (x:Nat) (w:World) (hx:x<256) :
  Calls Tryz.prog 37 #[.int .u8 x] w fun e w' => e=.returned (.bool (bareB x))/\w=w':=by
 go_enter Tryz.func37,Tryz.ntmps37
 go_wp2
 all_goals (go_ret;refine ⟨ret_bool ?_,rfl⟩;unfold bareB)
 all_goals (apply Bool.eq_iff_iff.2;simp;omega)
theorem month_c (y m:Int) (w:World) (hy:0<=y) (hy2:y<=10000) :
  Calls Tryz.prog 87 #[.int .i64 y,.int .i64 m] w fun e w' => e=.returned (.int .i64 (monthP y m))/\w=w':=by
 go_enter Tryz.func87,Tryz.ntmps87
 go_wp2
 all_goals (go_ret;refine ⟨ret_int ?_,rfl⟩;unfold monthP)
 all_goals (try simp only [beq_iff_eq,beq_eq_false_iff_ne] at *)
 all_goals (split <;> (try split) <;> (try split) <;> omega)
structure VW (D:Doc) (A:Option Addr) (C k:Nat) (a:Option Addr) (n c:Nat):Prop where
 at_:k<D.n->∃ bd o,A=some ⟨bd,o,none⟩/\a=some ⟨bd,o+k,none⟩
 len:k+n=D.n
 cap:k+c=C
theorem VW.bytes {D:Doc} {A a:Option Addr} {C k n c:Nat} {w:World} (v:VW D A C k a n c) (h:DocAt D A C w) (hk:k<D.n) :
  ∃ bd q,a=some ⟨bd,q,none⟩/\∀ i,k+i<D.n->w.cell? ⟨bd,q+i,none⟩=some (.int .u8 (D.c (k+i))):=by
 obtain ⟨bd,o,rfl,rfl⟩:=v.at_ hk;obtain ⟨_,_,h | ⟨bd',o',e,_,hc⟩⟩:=h
 ·omega
 ·injection e with e;injection e with e1 e2;subst e1 e2;exact ⟨bd,o+k,rfl,fun i hi => by rw [Nat.add_assoc];exact hc (k+i) hi⟩
theorem info5':(Tryz.prog.info? 5).map (fun i => (i.zero,i.size,i.bytes))=some (some (.int .u8 0),1,1):=by kernel_rfl
theorem size22 (w:World):(sizeOf (Tryz.prog.elem 22)).run Tryz.prog w=.ok 1 w:=by
 have he:Tryz.prog.elem 22=5:=by kernel_rfl
 obtain ⟨i,hi,hz0,hz1,hz2⟩:=info_parts info5';rw [he];simp [sizeOf,typeInfo,hi,hz1]
theorem under22:Tryz.prog.underlying 22=some (.slice (Tryz.prog.elem 22)):=by kernel_rfl
theorem VW.move {D:Doc} {A a:Option Addr} {C k n c:Nat} (v:VW D A C k a n c) (hC:D.n<=C) (j:Nat) (hj:j<=n):VW D A C (k+j) (if c=j then a else a.map (·.add j)) (n - j) (c - j):=by
 have h1:=v.len;have h2:=v.cap;refine ⟨fun h => ?_,by omega,by omega⟩;obtain ⟨bd,o,rfl,rfl⟩:=v.at_ (by omega);refine ⟨bd,o,rfl,?_⟩;rw [if_neg (by omega)];rw [Option.map_some];unfold Addr.add;split
 ·rename_i h0;rw [h0];rfl
 ·simp [Nat.add_assoc]
theorem VW.from_ {D:Doc} {A a:Option Addr} {C k n c:Nat} (v:VW D A C k a n c) (hC:D.n<=C) (j:Nat) (x:Int) (hx:x=(j:Int)) (hj:j<=n) :
  ∃ a',VW D A C (k+j) a' (n - j) (c - j)/\∀ w,(Instr.slice 22 (.slice a n c) (some (.int .i64 x)) none none).run Tryz.prog w=.ok (.slice a' (n - j) (c - j)) w:=by
 subst hx;refine ⟨_,v.move hC j hj,fun w => ?_⟩;rw [run_slice_l (P:=Tryz.prog) w 22 a n c under22 .i64 (j:Int) (by omega) (by omega),size22];simp only [Result.andThen,sliced,Int.toNat_natCast,Nat.mul_one]
theorem VW.sub {D:Doc} {A a:Option Addr} {C k n c:Nat} (v:VW D A C k a n c) (hC:D.n<=C) (i j:Nat) (x y:Int) (hx:x=(i:Int)) (hy:y=(j:Int)) (hij:i<=j) (hj:j<=n) :
  ∃ a',VW D A C (k+i) a' (n - i) (c - i)/\∀ w,(Instr.slice 22 (.slice a n c) (some (.int .i64 x)) (some (.int .i64 y)) none).run Tryz.prog w=.ok (.slice a' (j - i) (c - i)) w:=by
 subst hx hy;have h1:=v.len;have h2:=v.cap;refine ⟨_,v.move hC i (by omega),fun w => ?_⟩;rw [run_slice_lh (P:=Tryz.prog) w 22 a n c under22 .i64 .i64 (i:Int) (j:Int) (by omega) (by omega) (by omega),size22];simp only [Result.andThen,sliced,Int.toNat_natCast,Nat.mul_one]
theorem upto_ (a:Option Addr) (n c j:Nat) (y:Int) (hy:y=(j:Int)) (hj:j<=c) (w:World) :
  (Instr.slice 22 (.slice a n c) none (some (.int .i64 y)) none).run Tryz.prog w=.ok (.slice a j c) w:=by
 subst hy;rw [run_slice_h (P:=Tryz.prog) w 22 a n c under22 .i64 (j:Int) (by omega) (by omega),size22];have h0:a.map (·.add 0)=a:=by cases a <;> rfl
 simp only [Result.andThen,sliced,Int.toNat_natCast,Nat.zero_mul,h0,ite_self,Nat.sub_zero]
def slen (v:Value):Nat:=match v with | .slice _ n _ => n | _ => 0
theorem skip_c (D:Doc) (A a:Option Addr) (C k n c:Nat) (w:World) (hd:DocAt D A C w) (hv:VW D A C k a n c) :
  Calls Tryz.prog 52 #[.slice a n c] w fun e w' => w'=w/\∃ a' n' c',e=.returned (.slice a' n' c')/\VW D A C (wsEnd D k) a' n' c':=by
 have hs:=D.small;have hC1:=hd.1;have hC2:=hd.2.1;obtain ⟨r,hr⟩:∃ r,wsEnd D k=r:=⟨_,rfl⟩;rw [hr];have HR:=qqh hr;have HD:=qqh hd;have HV:=qqh hv;clear hr hd hv;go_enter Tryz.func52,Tryz.ntmps52;go_wp2_with fail
 go_loop [0] (fun b => ∃ (k:Nat) (a:Option Addr) (n c:Nat),b=.slice a n c/\Hid (VW D A C k a n c)/\Hid (wsEnd D k=r)) (fun b => slen b)
 case atStart => exact ⟨k,a,n,c,rfl,HV,HR⟩
 case round =>
  obtain ⟨k,a,n,c,rfl,HV,HR⟩:=hrel;have hln:=qql HV.out.len;have hln':=qql HV.out.len.symm;rcases qqg k D.n with hlt | hge
  ·obtain ⟨bd,q,rfl,hb⟩:=HV.out.bytes HD.out hlt;have b0:=hb 0 (by omega);simp only [Nat.add_zero] at b0;obtain ⟨a',hva,hrun⟩:=VW.from_ HV.out hC1 1 1 rfl (by omega);have HVA:=qqh hva;clear hb hva;by_cases h32:D.c k=32
   ·have HW:Hid (wsEnd D (k+1)=r):=(by show _=_;rw [<- wsEnd_go (.inl h32)];exact HR.out);have e1:((D.c k:Int) == 32)=true:=(by rw [beq_iff_eq];omega);clear h32;go_wp2_with fail
    go_round
    case rel => exact ⟨k+1,a',_,_,rfl,HVA,HW⟩
    case measure => simp only [slen];omega
   ·have e1:((D.c k:Int) == 32)=false:=qqn (by omega);by_cases h9:D.c k=9
    ·have HW:Hid (wsEnd D (k+1)=r):=(by show _=_;rw [<- wsEnd_go (.inr h9)];exact HR.out);have e2:((D.c k:Int) == 9)=true:=(by rw [beq_iff_eq];omega);clear h32 h9;go_wp2_with fail
     go_round
     case rel => exact ⟨k+1,a',_,_,rfl,HVA,HW⟩
     case measure => simp only [slen];omega
    ·have e2:((D.c k:Int) == 9)=false:=qqn (by omega);obtain rfl:k=r:=(by rw [<- HR.out,wsEnd_stop (by omega)]);clear h32 h9;go_wp2_with fail
     go_ret;exact ⟨rfl,_,_,_,rfl,HV.out⟩
  ·obtain rfl:k=r:=(by rw [<- HR.out,wsEnd_stop (by rw [D.out _ hge];omega)]);go_wp2_with fail
   go_ret;exact ⟨rfl,_,_,_,rfl,HV.out⟩
theorem wrap64_nat (x:Nat) (hx:x<18446744073709551616):IntKind.u64.wrap (x:Int)=(x:Int):=IntWalk.u64_in _ (by omega)
theorem ofInt64 (x:Nat):BitVec.ofInt IntKind.u64.bits (x:Int)=BitVec.ofNat 64 x:=by
 show BitVec.ofInt 64 (x:Int)=_;exact BitVec.ofInt_natCast 64 x
theorem bits_and_nat (x y:Nat) (hx:x<18446744073709551616) (hy:y<18446744073709551616):bits BinOp.and IntKind.u64 (x:Int) (y:Int)=((x &&& y:Nat):Int):=by
 have h:(BitVec.ofNat 64 x &&& BitVec.ofNat 64 y).toNat=x &&& y:=by
  rw [BitVec.toNat_and,BitVec.toNat_ofNat,BitVec.toNat_ofNat,Nat.mod_eq_of_lt (by omega),Nat.mod_eq_of_lt (by omega)]
 unfold bits;simp only [ofInt64];show IntKind.u64.wrap (((BitVec.ofNat 64 x &&& BitVec.ofNat 64 y).toNat:Nat):Int)=_;rw [h];exact wrap64_nat _ (Nat.lt_of_le_of_lt Nat.and_le_left hx)
theorem bits_or_nat (x y:Nat) (hx:x<18446744073709551616) (hy:y<18446744073709551616):bits BinOp.or IntKind.u64 (x:Int) (y:Int)=((x ||| y:Nat):Int):=by
 have h:(BitVec.ofNat 64 x ||| BitVec.ofNat 64 y).toNat=x ||| y:=by
  rw [BitVec.toNat_or,BitVec.toNat_ofNat,BitVec.toNat_ofNat,Nat.mod_eq_of_lt (by omega),Nat.mod_eq_of_lt (by omega)]
 unfold bits;simp only [ofInt64];show IntKind.u64.wrap (((BitVec.ofNat 64 x ||| BitVec.ofNat 64 y).toNat:Nat):Int)=_;rw [h];exact wrap64_nat _ (Nat.or_lt_two_pow (n:=64) (by omega) (by omega))
theorem bits_xor_nat (x y:Nat) (hx:x<18446744073709551616) (hy:y<18446744073709551616):bits BinOp.xor IntKind.u64 (x:Int) (y:Int)=((x ^^^ y:Nat):Int):=by
 have h:(BitVec.ofNat 64 x ^^^ BitVec.ofNat 64 y).toNat=x ^^^ y:=by
  rw [BitVec.toNat_xor,BitVec.toNat_ofNat,BitVec.toNat_ofNat,Nat.mod_eq_of_lt (by omega),Nat.mod_eq_of_lt (by omega)]
 unfold bits;simp only [ofInt64];show IntKind.u64.wrap (((BitVec.ofNat 64 x ^^^ BitVec.ofNat 64 y).toNat:Nat):Int)=_;rw [h];exact wrap64_nat _ (Nat.xor_lt_two_pow (n:=64) (by omega) (by omega))
def byt (x i:Nat):Nat:=x / 2 ^ (8 * i) % 256
def hbb (x n:Nat):Nat:=((x+18446744073709551616 - n * 72340172838076673) % 18446744073709551616 &&& (18446744073709551615 ^^^ x)) &&& 9259542123273814144
def hbe (x n:Nat):Nat:=hbb (x ^^^ (n * 72340172838076673)) 1
theorem byt_high {x i:Nat} (h:byt x i<128):x.testBit (8 * i+7)=false:=by
 rw [Nat.testBit_eq_decide_div_mod_eq,decide_eq_false_iff_not];unfold byt at h;rw [Nat.pow_add,<- Nat.div_div_eq_div_mul];generalize x / 2 ^ (8 * i)=y at *;omega
theorem byt_low {x i:Nat} (h:x.testBit (8 * i+7)=false):byt x i<128:=by
 rw [Nat.testBit_eq_decide_div_mod_eq,decide_eq_false_iff_not] at h;unfold byt;rw [Nat.pow_add,<- Nat.div_div_eq_div_mul] at h;generalize x / 2 ^ (8 * i)=y at *;omega
theorem msb_bit:∀ i,i<8->(9259542123273814144:Nat).testBit (8 * i+7)=true:=by decide
theorem max_bit:∀ i,i<8->(18446744073709551615:Nat).testBit (8 * i+7)=true:=by decide
theorem and_msb {x i:Nat} (hi:i<8) (h:x &&& 9259542123273814144=0):byt x i<128:=by
 apply byt_low
 have:=congrArg (fun y => y.testBit (8 * i+7)) h;simpa [Nat.testBit_and,msb_bit i hi] using this
theorem step256 {t r:Int} (h:t+256 * r=0) (h1:-256<t) (h2:t<256):t=0/\r=0:=by omega
theorem hbb_zero {x n:Nat} (hx:x<18446744073709551616) (hn:n<=128) (hb:∀ i,i<8->byt x i<128) (h:hbb x n=0):∀ i,i<8->n<=byt x i:=by
 have hd:∀ i,i<8->byt ((x+18446744073709551616 - n * 72340172838076673) % 18446744073709551616) i<128:=by
  intro i hi
  apply byt_low
  have:=congrArg (fun y => y.testBit (8 * i+7)) h;simpa [hbb,Nat.testBit_and,Nat.testBit_xor,msb_bit i hi,max_bit i hi,byt_high (hb i hi)] using this
 obtain ⟨d,hdd⟩:∃ d,(x+18446744073709551616 - n * 72340172838076673) % 18446744073709551616=d:=⟨_,rfl⟩;rw [hdd] at hd;have hdlt:d<18446744073709551616:=by omega
 have ex:x=byt x 0+256 * (byt x 1+256 * (byt x 2+256 * (byt x 3+256 * (byt x 4+256 * (byt x 5+256 * (byt x 6+256 * byt x 7)))))):=by
  unfold byt;simp only [Nat.reduceMul,Nat.reducePow,Nat.div_one];omega
 have ed:d=byt d 0+256 * (byt d 1+256 * (byt d 2+256 * (byt d 3+256 * (byt d 4+256 * (byt d 5+256 * (byt d 6+256 * byt d 7)))))):=by
  unfold byt;simp only [Nat.reduceMul,Nat.reducePow,Nat.div_one];omega
 have k0:=hb 0 (by omega);have k1:=hb 1 (by omega);have k2:=hb 2 (by omega);have k3:=hb 3 (by omega);have k4:=hb 4 (by omega);have k5:=hb 5 (by omega);have k6:=hb 6 (by omega);have k7:=hb 7 (by omega);have d0:=hd 0 (by omega);have d1:=hd 1 (by omega);have d2:=hd 2 (by omega);have d3:=hd 3 (by omega);have d4:=hd 4 (by omega);have d5:=hd 5 (by omega);have d6:=hd 6 (by omega);have d7:=hd 7 (by omega);have hq:∃ q:Int,(d:Int)=x - n * 72340172838076673+18446744073709551616 * q:=⟨1 - ((x+18446744073709551616 - n * 72340172838076673) / 18446744073709551616:Nat),by omega⟩;obtain ⟨q,hq⟩:=hq;have key:n<=byt x 0/\n<=byt x 1/\n<=byt x 2/\n<=byt x 3/\n<=byt x 4/\n<=byt x 5/\n<=byt x 6/\n<=byt x 7:=by
  clear hdd hdlt hd hb h;generalize byt x 0=x0 at *;generalize byt x 1=x1 at *;generalize byt x 2=x2 at *;generalize byt x 3=x3 at *;generalize byt x 4=x4 at *;generalize byt x 5=x5 at *;generalize byt x 6=x6 at *;generalize byt x 7=x7 at *;generalize byt d 0=e0 at *;generalize byt d 1=e1 at *;generalize byt d 2=e2 at *;generalize byt d 3=e3 at *;generalize byt d 4=e4 at *;generalize byt d 5=e5 at *;generalize byt d 6=e6 at *;generalize byt d 7=e7 at *;have hs0:(((x0:Int) - n - e0)+256 * (((x1:Int) - n - e1)+256 * (((x2:Int) - n - e2)+256 * (((x3:Int) - n - e3)+256 * (((x4:Int) - n - e4)+256 * (((x5:Int) - n - e5)+256 * (((x6:Int) - n - e6)+256 * (((x7:Int) - n - e7)+256 * q))))))))=0:=by omega
  obtain ⟨t0,hs1⟩:=step256 hs0 (by omega) (by omega);obtain ⟨t1,hs2⟩:=step256 hs1 (by omega) (by omega);obtain ⟨t2,hs3⟩:=step256 hs2 (by omega) (by omega);obtain ⟨t3,hs4⟩:=step256 hs3 (by omega) (by omega);obtain ⟨t4,hs5⟩:=step256 hs4 (by omega) (by omega);obtain ⟨t5,hs6⟩:=step256 hs5 (by omega) (by omega);obtain ⟨t6,hs7⟩:=step256 hs6 (by omega) (by omega);obtain ⟨t7,hs8⟩:=step256 hs7 (by omega) (by omega);omega
 obtain ⟨a0,a1,a2,a3,a4,a5,a6,a7⟩:=key;intro i hi
 match i,hi with
 | 0,_ => exact a0
 | 1,_ => exact a1
 | 2,_ => exact a2
 | 3,_ => exact a3
 | 4,_ => exact a4
 | 5,_ => exact a5
 | 6,_ => exact a6
 | 7,_ => exact a7
theorem byt_xor (x y i:Nat):byt (x ^^^ y) i=byt x i ^^^ byt y i:=by
 unfold byt;rw [Nat.xor_div_two_pow,show (256:Nat)=2 ^ 8 by rfl,Nat.xor_mod_two_pow]
theorem byt_0 {a:Nat} (ha:a<256) (r:Nat):byt (a+256 * r) 0=a:=by unfold byt;simp only [Nat.mul_zero,Nat.pow_zero,Nat.div_one];omega
theorem byt_s {a:Nat} (ha:a<256) (r i:Nat):byt (a+256 * r) (i+1)=byt r i:=by
 unfold byt;rw [show 8 * (i+1)=8+8 * i by omega,Nat.pow_add,<- Nat.div_div_eq_div_mul,show (a+256 * r) / 2 ^ 8=r by omega]
theorem byt_last {a:Nat} (ha:a<256):byt a 0=a:=by unfold byt;simp only [Nat.mul_zero,Nat.pow_zero,Nat.div_one];omega
theorem bytes8 {x0 x1 x2 x3 x4 x5 x6 x7:Nat} (h0:x0<256) (h1:x1<256) (h2:x2<256) (h3:x3<256) (h4:x4<256) (h5:x5<256) (h6:x6<256) (h7:x7<256) (f:Nat->Nat)
  (e0:f 0=x0) (e1:f 1=x1) (e2:f 2=x2) (e3:f 3=x3) (e4:f 4=x4) (e5:f 5=x5) (e6:f 6=x6) (e7:f 7=x7) :
  ∀ i,i<8->byt (x0+256 * (x1+256 * (x2+256 * (x3+256 * (x4+256 * (x5+256 * (x6+256 * x7))))))) i=f i:=by
 intro i hi
 match i,hi with
 | 0,_ => rw [byt_0 h0,e0]
 | 1,_ => rw [byt_s h0,byt_0 h1,e1]
 | 2,_ => rw [byt_s h0,byt_s h1,byt_0 h2,e2]
 | 3,_ => rw [byt_s h0,byt_s h1,byt_s h2,byt_0 h3,e3]
 | 4,_ => rw [byt_s h0,byt_s h1,byt_s h2,byt_s h3,byt_0 h4,e4]
 | 5,_ => rw [byt_s h0,byt_s h1,byt_s h2,byt_s h3,byt_s h4,byt_0 h5,e5]
 | 6,_ => rw [byt_s h0,byt_s h1,byt_s h2,byt_s h3,byt_s h4,byt_s h5,byt_0 h6,e6]
 | 7,_ => rw [byt_s h0,byt_s h1,byt_s h2,byt_s h3,byt_s h4,byt_s h5,byt_s h6,byt_last h7,e7]
theorem byt_lsb (n:Nat) (hn:n<256):∀ i,i<8->byt (n * 72340172838076673) i=n:=by
 have h:=bytes8 hn hn hn hn hn hn hn hn (fun _ => n) rfl rfl rfl rfl rfl rfl rfl rfl;rw [show n+256 * (n+256 * (n+256 * (n+256 * (n+256 * (n+256 * (n+256 * n))))))=n * 72340172838076673 by omega] at h;exact h
theorem hbe_zero {x n:Nat} (hx:x<18446744073709551616) (hn:n<128) (hb:∀ i,i<8->byt x i<128) (h:hbe x n=0):∀ i,i<8->byt x i ≠ n:=by
 have hy:x ^^^ (n * 72340172838076673)<18446744073709551616:=Nat.xor_lt_two_pow (n:=64) (by omega) (by omega);have h1:=hbb_zero hy (by omega) (fun i hi => by rw [byt_xor,byt_lsb n (by omega) i hi];exact Nat.xor_lt_two_pow (n:=7) (hb i hi) (by omega)) h;intro i hi e;have:=h1 i hi;rw [byt_xor,byt_lsb n (by omega) i hi,e,Nat.xor_self] at this;omega
def le8 (D:Doc) (k:Nat):Nat:=D.c k+256 * D.c (k+1)+65536 * D.c (k+2)+16777216 * D.c (k+3)+4294967296 * D.c (k+4)+1099511627776 * D.c (k+5)+281474976710656 * D.c (k+6)+72057594037927936 * D.c (k+7)
theorem le8_lt (D:Doc) (k:Nat):le8 D k<18446744073709551616:=by
 have l0:=D.lt k;have l1:=D.lt (k+1);have l2:=D.lt (k+2);have l3:=D.lt (k+3);have l4:=D.lt (k+4);have l5:=D.lt (k+5);have l6:=D.lt (k+6);have l7:=D.lt (k+7);unfold le8;omega
theorem byt_le8 (D:Doc) (k:Nat):∀ i,i<8->byt (le8 D k) i=D.c (k+i):=by
 have h:=bytes8 (D.lt k) (D.lt (k+1)) (D.lt (k+2)) (D.lt (k+3)) (D.lt (k+4)) (D.lt (k+5)) (D.lt (k+6)) (D.lt (k+7)) (fun i => D.c (k+i)) rfl rfl rfl rfl rfl rfl rfl rfl;have e:le8 D k=D.c k+256 * (D.c (k+1)+256 * (D.c (k+2)+256 * (D.c (k+3)+256 * (D.c (k+4)+256 * (D.c (k+5)+256 * (D.c (k+6)+256 * D.c (k+7))))))):=by unfold le8;omega
 rw [e];exact h
theorem plain8 (D:Doc) (k:Nat) (h1:le8 D k &&& 9259542123273814144=0) (h2:hbb (le8 D k) 32=0) (h3:hbe (le8 D k) 127=0):∀ i,i<8->32<=D.c (k+i)/\D.c (k+i)<127:=by
 have hb:∀ i,i<8->byt (le8 D k) i<128:=fun i hi => and_msb hi h1
 intro i hi;have a:=hb i hi;have b:=hbb_zero (le8_lt D k) (by omega) hb h2 i hi;have c:=hbe_zero (le8_lt D k) (by omega) hb h3 i hi;rw [byt_le8 D k i hi] at a b c;omega
theorem other8 (D:Doc) (k n:Nat) (hn:n<128) (h1:le8 D k &&& 9259542123273814144=0) (h3:hbe (le8 D k) n=0):∀ i,i<8->D.c (k+i) ≠ n:=by
 have hb:∀ i,i<8->byt (le8 D k) i<128:=fun i hi => and_msb hi h1
 intro i hi;have c:=hbe_zero (le8_lt D k) hn hb h3 i hi;rw [byt_le8 D k i hi] at c;exact c
theorem hbb_lt (x n:Nat):hbb x n<18446744073709551616:=by
 unfold hbb;generalize ((x+18446744073709551616 - n * 72340172838076673) % 18446744073709551616 &&& (18446744073709551615 ^^^ x))=y;exact Nat.lt_of_le_of_lt (Nat.and_le_right (n:=y) (m:=9259542123273814144)) (by omega)
theorem hbe_lt (x n:Nat):hbe x n<18446744073709551616:=hbb_lt _ _
theorem or_zero {x y:Nat} (h:x ||| y=0):x=0/\y=0:=by
 constructor
 ·apply Nat.eq_of_testBit_eq;intro i;have:=congrArg (fun z => z.testBit i) h;simp [Nat.testBit_or] at this;simp [this.1]
 ·apply Nat.eq_of_testBit_eq;intro i;have:=congrArg (fun z => z.testBit i) h;simp [Nat.testBit_or] at this;simp [this.2]
theorem wrap_u64 (n:Int):IntKind.u64.wrap n=n % 18446744073709551616:=by simp [IntKind.wrap,IntKind.bits,IntKind.signed]
theorem max_u64:IntKind.u64.max=18446744073709551615:=by simp [IntKind.max,IntKind.bits,IntKind.signed]
theorem sub_u64 (x n:Nat) (hx:x<18446744073709551616) (hn:n<=128):IntKind.u64.wrap ((x:Int) - (n:Int) * 72340172838076673)=(((x+18446744073709551616 - n * 72340172838076673) % 18446744073709551616:Nat):Int):=by
 rw [wrap_u64];omega
theorem and3_nat (a b c:Nat) (hb:b<18446744073709551616) (hc:c<18446744073709551616) (ha:a<18446744073709551616) :
  bits BinOp.and IntKind.u64 (bits BinOp.and IntKind.u64 (a:Int) (b:Int)) (c:Int)=(((a &&& b) &&& c:Nat):Int):=by
 rw [bits_and_nat a b ha hb,bits_and_nat _ c (Nat.lt_of_le_of_lt Nat.and_le_left ha) hc]
theorem hbb_bits (x n:Nat) (hx:x<18446744073709551616) (hn:n<=128) :
  bits BinOp.and IntKind.u64 (bits BinOp.and IntKind.u64 (IntKind.u64.wrap ((x:Int) - (n:Int) * 72340172838076673)) (bits BinOp.xor IntKind.u64 IntKind.u64.max (x:Int))) 9259542123273814144=((hbb x n:Nat):Int):=by
 have h5:bits BinOp.xor IntKind.u64 18446744073709551615 (x:Int)=((18446744073709551615 ^^^ x:Nat):Int):=bits_xor_nat 18446744073709551615 x (by omega) hx;have h6:18446744073709551615 ^^^ x<18446744073709551616:=Nat.xor_lt_two_pow (n:=64) (by omega) (by omega);rw [sub_u64 x n hx hn,max_u64,h5];unfold hbb;have h8:(x+18446744073709551616 - n * 72340172838076673) % 18446744073709551616<18446744073709551616:=Nat.mod_lt _ (by omega);generalize (x+18446744073709551616 - n * 72340172838076673) % 18446744073709551616=a at *;generalize 18446744073709551615 ^^^ x=b at *;exact and3_nat a b 9259542123273814144 h6 (by omega) h8
theorem or_sum {x y:Int} {p:Int} {a b m:Nat} (ha:x=(a:Int)) (hb:y=(b:Int)) (hp:p=((2 ^ m:Nat):Int)) (hlt:a<2 ^ m) (hlt2:a+b * 2 ^ m<18446744073709551616) :
  bits BinOp.or IntKind.u64 x (y * p)=((a+b * 2 ^ m:Nat):Int):=by
 subst ha hb hp;have h1:a<18446744073709551616:=by have:0<=b * 2 ^ m:=Nat.zero_le _;omega
 rw [show (b:Int) * ((2 ^ m:Nat):Int)=((b * 2 ^ m:Nat):Int) by rw [Int.natCast_mul],bits_or_nat _ _ h1 (by omega)]
 congr 1
 rw [Nat.or_comm,Nat.mul_comm b,<- Nat.two_pow_add_eq_or_of_lt hlt];omega
theorem le8_c (D:Doc) (A a:Option Addr) (C k n c:Nat) (w:World) (hd:DocAt D A C w) (hv:VW D A C k a n c) (hi:8<=n) :
  Calls Tryz.prog 76 #[.slice a n c] w fun e w' => e=.returned (.int .u64 (le8 D k:Nat))/\∃ m,w'=w.drewN m:=by
 have hs:=D.small;have hln:=qql hv.len;have hln':=qql hv.len.symm;obtain ⟨bd,q,rfl,hb⟩:=hv.bytes hd (by omega);have b0:=hb 0 (by omega);have b1:=hb 1 (by omega);have b2:=hb 2 (by omega);have b3:=hb 3 (by omega);have b4:=hb 4 (by omega);have b5:=hb 5 (by omega);have b6:=hb 6 (by omega);have b7:=hb 7 (by omega);simp only [Nat.add_zero] at b0;have l0:=D.lt k;have l1:=D.lt (k+1);have l2:=D.lt (k+2);have l3:=D.lt (k+3);have l4:=D.lt (k+4);have l5:=D.lt (k+5);have l6:=D.lt (k+6);have l7:=D.lt (k+7);have HV:=qqh hv;have HD:=qqh hd;clear hb hv hd;go_enter Tryz.func76,Tryz.ntmps76;go_wp2_with fail
 go_quiet (fail)
 go_wp2_with fail
 go_ret;refine ⟨congrArg Ending.returned (congrArg (Value.int .u64) ?_),_,rfl⟩;unfold le8;rw [or_sum (a:=D.c k) (b:=D.c (k+1)) (m:=8) (p:=256) rfl rfl (by decide) (by omega) (by omega),
  or_sum (b:=D.c (k+2)) (m:=16) (p:=65536) rfl rfl (by decide) (by omega) (by omega),
  or_sum (b:=D.c (k+3)) (m:=24) (p:=16777216) rfl rfl (by decide) (by omega) (by omega),
  or_sum (b:=D.c (k+4)) (m:=32) (p:=4294967296) rfl rfl (by decide) (by omega) (by omega),
  or_sum (b:=D.c (k+5)) (m:=40) (p:=1099511627776) rfl rfl (by decide) (by omega) (by omega),
  or_sum (b:=D.c (k+6)) (m:=48) (p:=281474976710656) rfl rfl (by decide) (by omega) (by omega),
  or_sum (b:=D.c (k+7)) (m:=56) (p:=72057594037927936) rfl rfl (by decide) (by omega) (by omega)]
 congr 1
 omega
theorem hbb_c (x n:Nat) (hx:x<18446744073709551616) (hn:n<=128) (w:World) :
  Calls Tryz.prog 77 #[.int .u64 x,.int .u64 n] w fun e w' => e=.returned (.int .u64 (hbb x n:Nat))/\w'=w:=by
 go_enter Tryz.func77,Tryz.ntmps77;go_wp2_with fail
 go_ret;refine ⟨congrArg Ending.returned (congrArg (Value.int .u64) ?_),rfl⟩;exact hbb_bits x n hx hn
theorem hbe_c (x n:Nat) (hx:x<18446744073709551616) (hn:n<=128) (w:World) :
  Calls Tryz.prog 78 #[.int .u64 x,.int .u64 n] w fun e w' => e=.returned (.int .u64 (hbe x n:Nat))/\w'=w:=by
 go_enter Tryz.func78,Tryz.ntmps78;go_wp2_with fail
 go_ret;refine ⟨congrArg Ending.returned (congrArg (Value.int .u64) ?_),rfl⟩;have h1:=hbb_bits (x ^^^ (n * 72340172838076673)) 1 (Nat.xor_lt_two_pow (n:=64) (by omega) (by omega)) (by omega);have h2:=bits_xor_nat x (n * 72340172838076673) hx (by omega);rw [show ((n * 72340172838076673:Nat):Int)=(n:Int) * 72340172838076673 by omega] at h2;rw [h2];exact h1
def zoneIn (D:Doc) (k:Nat):Nat->Bool
 | 0 => false
 | m+1 => decide (D.c k=90\/D.c k=122\/D.c k=43\/D.c k=45) || zoneIn D (k+1) m
theorem zone_c (D:Doc) (a:Option Addr) (k m c:Nat) (w:World) (hm:m<=1073741824) (hb:0<m->∃ bd q,a=some ⟨bd,q,none⟩/\∀ i,i<m->w.cell? ⟨bd,q+i,none⟩=some (.int .u8 (D.c (k+i)))) :
  Calls Tryz.prog 121 #[.slice a m c] w fun e w' => e=.returned (.bool (zoneIn D k m))/\w'=w:=by
 obtain ⟨r,hr⟩:∃ r,zoneIn D k m=r:=⟨_,rfl⟩;rw [hr];have HB:=qqh hb;have HR0:Hid (zoneIn D (k+0) (m - 0)=r):=hr;clear hb hr;go_enter Tryz.func121,Tryz.ntmps121;go_wp2_with fail
 go_loop [7] (fun x => ∃ j:Nat,j<=m/\x=.int .i64 (j:Nat)/\Hid (zoneIn D (k+j) (m - j)=r)) (fun x => m - (intOf x).toNat)
 case atStart => exact ⟨0,by omega,rfl,HR0⟩
 case round =>
  obtain ⟨j,hj,rfl,HR⟩:=hrel;rcases qqg j m with hl | hl
  ·obtain ⟨bd,q,rfl,hb⟩:=HB.out (by omega);have b0:=hb j hl;clear hb;have hst:zoneIn D (k+j) (m - j)=(decide (D.c (k+j)=90\/D.c (k+j)=122\/D.c (k+j)=43\/D.c (k+j)=45) || zoneIn D (k+(j+1)) (m - (j+1))):=by
    obtain ⟨t,ht⟩:∃ t,m - j=t+1:=⟨m - j - 1,by omega⟩;rw [ht,show m - (j+1)=t by omega];rfl
   rw [HR.out] at hst;have HST:=qqh hst;clear hst;by_cases h90:D.c (k+j)=90
   ·have e1:((D.c (k+j):Int) == 90)=true:=(by rw [beq_iff_eq];omega);obtain rfl:true=r:=(by rw [HST.out,qqt (.inl h90)];rfl);clear h90;go_wp2_with fail
    go_ret;exact ⟨rfl,rfl⟩
   have e1:((D.c (k+j):Int) == 90)=false:=qqn (by omega);by_cases h122:D.c (k+j)=122
   ·have e2:((D.c (k+j):Int) == 122)=true:=(by rw [beq_iff_eq];omega);obtain rfl:true=r:=(by rw [HST.out,qqt (.inr (.inl h122))];rfl);clear h90 h122;go_wp2_with fail
    go_ret;exact ⟨rfl,rfl⟩
   have e2:((D.c (k+j):Int) == 122)=false:=qqn (by omega);by_cases h43:D.c (k+j)=43
   ·have e3:((D.c (k+j):Int) == 43)=true:=(by rw [beq_iff_eq];omega);obtain rfl:true=r:=(by rw [HST.out,qqt (.inr (.inr (.inl h43)))];rfl);clear h90 h122 h43;go_wp2_with fail
    go_ret;exact ⟨rfl,rfl⟩
   have e3:((D.c (k+j):Int) == 43)=false:=qqn (by omega);by_cases h45:D.c (k+j)=45
   ·have e4:((D.c (k+j):Int) == 45)=true:=(by rw [beq_iff_eq];omega);obtain rfl:true=r:=(by rw [HST.out,qqt (.inr (.inr (.inr h45)))];rfl);clear h90 h122 h43 h45;go_wp2_with fail
    go_ret;exact ⟨rfl,rfl⟩
   have e4:((D.c (k+j):Int) == 45)=false:=qqn (by omega);have HN:Hid (zoneIn D (k+(j+1)) (m - (j+1))=r):=(by show _=_;rw [HST.out,qqf (by omega)];rfl);clear h90 h122 h43 h45;go_wp2_with fail
   go_round
   case rel => exact ⟨j+1,by omega,by go_num,HN⟩
   case measure => simp [intOf];omega
  ·obtain rfl:j=m:=(by omega);obtain rfl:false=r:=(by rw [<- HR.out,Nat.sub_self];rfl);go_wp2_with fail
   go_ret;exact ⟨rfl,rfl⟩
end Go.Proofs.YtpgmddjgcgpoeaaGreat
