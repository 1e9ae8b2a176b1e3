/-
  A part of the proof.
-/
import Derived.Test.YtpgmddjgcgpoeaaGreatD38
import Derived.StillTailTactics
import Derived.Deep.MidRow
set_option linter.unusedVariables false
set_option linter.unusedSimpArgs false
set_option maxRecDepth 100000
set_option maxHeartbeats 8000000
namespace Go.Proofs.YtpgmddjgcgpoeaaGreat
open Go.RowKit
theorem RpL.at {w:World} {base:Nat} {S:Nat->Prop}:∀ {ts:List Tree} {xs:List Value} (i:Nat) (hi:i<ts.length),RpL w base S ts xs->∃ cs,RpT w base S ts[i] cs/\∀ j u,cs[j]?=some u->xs[i * 4+j]?=some u
 | [],_,i,hi,_ => by simp at hi
 | t :: ts,xs,i,hi,h => by
  rw [RpL.cons] at h;obtain ⟨a,b,rfl,h1,h2⟩:=h;have hl:=RpT.length h1;cases i with
  | zero => exact ⟨a,h1,fun j u hu => by rw [Nat.zero_mul,Nat.zero_add,List.getElem?_append_left (List.getElem?_eq_some_iff.1 hu).1];exact hu⟩
  | succ i =>
   obtain ⟨cs,h3,h4⟩:=RpL.at i (by simpa using hi) h2;exact ⟨cs,by simpa using h3,fun j u hu => by rw [List.getElem?_append_right (by omega),show (i+1) * 4+j - a.length=i * 4+j by omega];exact h4 j u hu⟩
theorem RepL.at {w:World} {base:Nat} {S:Nat->Prop}:∀ {ts:List Tree} {xs:List Value} (i:Nat) (hi:i<ts.length),RepL w base S ts xs->∃ cs,RepT w base S ts[i] cs/\∀ j u,cs[j]?=some u->xs[i * 4+j]?=some u
 | [],_,i,hi,_ => by simp at hi
 | t :: ts,xs,i,hi,h => by
  rw [RepL.cons] at h;obtain ⟨a,b,rfl,h1,h2⟩:=h;have hl:=RepT.length h1;cases i with
  | zero => exact ⟨a,h1,fun j u hu => by rw [Nat.zero_mul,Nat.zero_add,List.getElem?_append_left (List.getElem?_eq_some_iff.1 hu).1];exact hu⟩
  | succ i =>
   obtain ⟨cs,h3,h4⟩:=RepL.at i (by simpa using hi) h2;exact ⟨cs,by simpa using h3,fun j u hu => by rw [List.getElem?_append_right (by omega),show (i+1) * 4+j - a.length=i * 4+j by omega];exact h4 j u hu⟩
theorem row_form {w:World} {base e size n:Nat} {v:Value} {xs:List Value} (h:w.ownsRow base e size v n xs):∃ a c,v=.slice a n c/\∀ j u,xs[j]?=some u->∃ g,a=some ⟨g,0,none⟩/\w.cell? ⟨g,j,none⟩=some u:=by
 obtain ⟨a,l,c,rfl⟩:=IsSl.own h;obtain rfl:l=n:=own_len h;refine ⟨a,c,rfl,fun j u hu => ?_⟩;have hj:=(List.getElem?_eq_some_iff.1 hu).1;rw [h.1] at hj;rcases h.2 with ⟨h1,h2⟩ | ⟨g,cap,cur,h1,_⟩
 ·subst h2;rw [Nat.zero_mul] at hj;omega
 ·injection h1 with h1 _ h3;subst h1 h3;exact ⟨g,rfl,by rw [World.ownsRow.cellAt h j hj];exact hu⟩
theorem RpT.node4 {w:World} {base:Nat} {S:Nat->Prop} {t:Tree} {cs:List Value} (h:RpT w base S t cs):∃ c0 c1 c2 c3,cs=[c0,c1,c2,c3]:=by
 cases t with
 | mk k l items ks => obtain ⟨vi,vk,xs,rfl,_⟩:=RpT.iff.1 h;exact ⟨_,_,_,_,rfl⟩
theorem RepT.node4 {w:World} {base:Nat} {S:Nat->Prop} {t:Tree} {cs:List Value} (h:RepT w base S t cs):∃ c0 c1 c2 c3,cs=[c0,c1,c2,c3]:=by
 cases t with
 | mk k l items ks => obtain ⟨vi,vk,xs,rfl,_⟩:=RepT.iff.1 h;exact ⟨_,_,_,_,rfl⟩
theorem sz80:(Tryz.prog.info? 80).map (·.size)=some 4:=by kernel_rfl
theorem sz43:(Tryz.prog.info? 43).map (·.size)=some 4:=by kernel_rfl
def NI (t:Tree):Prop:=∀ (w:World) (b1 b2:Nat) (S1 S2:Nat->Prop) (cs1 cs2:List Value),RpT w b1 S1 t cs1->RepT w b2 S2 t cs2 ->
 Calls Tryz.prog 36 #[.agg cs1.toArray,.agg cs2.toArray] w fun e w' => e=.returned (.bool true)/\Kp Nil w w'
theorem ni_core (K:Nat) (l:List UInt8) (items:List Tree) (ks:List (List UInt8)) (hitems:∀ t ∈ items,NI t) (hil:items.length<=1073741824) (hkl:ks.length<=1073741824):NI (.mk K l items ks):=by
 intro w b1 b2 S1 S2 cs1 cs2 h1 h2;obtain ⟨vi1,vk1,xs1,rfl,r1,_,l1,k1,_⟩:=RpT.iff.1 h1;obtain ⟨vi2,vk2,xs2,rfl,r2,_,l2,k2,_⟩:=RepT.iff.1 h2;obtain ⟨a1,c1,rfl,f1⟩:=row_form r1;obtain ⟨a2,c2,rfl,f2⟩:=row_form r2;obtain ⟨ka1,kc1,rfl,_⟩:=OwnS.form k1;obtain ⟨ka2,kc2,rfl,_⟩:=OwnS.form k2;have R1:=qqh r1;have R2:=qqh r2;have L1:=qqh l1;have L2:=qqh l2;have K1:=qqh k1;have K2:=qqh k2;have F1:=qqh f1;have F2:=qqh f2;have HI:=qqh hitems;obtain ⟨n,hn⟩:∃ n,items.length=n:=⟨_,rfl⟩;rw [hn] at hil ⊢;have HN:Hid (items.length=n):=hn;have hs:sv l=.string ⟨l.toArray⟩:=rfl;rw [hs];clear h1 h2 r1 r2 l1 l2 k1 k2 f1 f2 hitems hn hs;obtain ⟨st,hst⟩:∃ st:ByteArray,(⟨l.toArray⟩:ByteArray)=st:=⟨_,rfl⟩;rw [hst];clear hst;obtain ⟨k8,hk8⟩:∃ k8,decide ((K:Int)<8)=k8:=⟨_,rfl⟩;have go:Calls Tryz.prog 36 #[.agg #[.int .i64 K,.string st,.slice a1 n c1,.slice ka1 ks.length kc1],.agg #[.int .i64 K,.string st,.slice a2 n c2,.slice ka2 ks.length kc2]] w fun e w' => e=.returned (.bool true)/\Kp Nil w w':=by
  cases k8 <;> (
  go_enter Tryz.func36,Tryz.ntmps36
  go_wp2_with fail
  refine (keysAre_c _ b1 b2 _ _ ks (own_alloc (own_alloc K1.out _) _) (own_alloc (own_alloc K2.out _) _) hkl).mono ?_
  rintro e w1 ⟨rfl,m,rfl⟩
  have hB1:Hid (Blk (((w.alloc (.cells #[.int .i64 K,.string st,.slice a1 n c1,.slice ka1 ks.length kc1] 80)).alloc (.cells #[.int .i64 K,.string st,.slice a2 n c2,.slice ka2 ks.length kc2] 43)).drewN m) w.heap.size [.int .i64 K,.string st,.slice a1 n c1,.slice ka1 ks.length kc1] 80) :=
   ((Blk.new w [.int .i64 K,.string st,.slice a1 n c1,.slice ka1 ks.length kc1] 80).alloc _).drewN m
  have hB2:Hid (Blk (((w.alloc (.cells #[.int .i64 K,.string st,.slice a1 n c1,.slice ka1 ks.length kc1] 80)).alloc (.cells #[.int .i64 K,.string st,.slice a2 n c2,.slice ka2 ks.length kc2] 43)).drewN m) (w.heap.size+1) [.int .i64 K,.string st,.slice a2 n c2,.slice ka2 ks.length kc2] 43):=by
   have:=Blk.drewN (Blk.new (w.alloc (.cells #[.int .i64 K,.string st,.slice a1 n c1,.slice ka1 ks.length kc1] 80)) [.int .i64 K,.string st,.slice a2 n c2,.slice ka2 ks.length kc2] 43) m
   rw [show (w.alloc (.cells #[.int .i64 K,.string st,.slice a1 n c1,.slice ka1 ks.length kc1] 80)).heap.size=w.heap.size+1 by simp] at this
   exact this
  have hK:Hid (Kp Nil w (((w.alloc (.cells #[.int .i64 K,.string st,.slice a1 n c1,.slice ka1 ks.length kc1] 80)).alloc (.cells #[.int .i64 K,.string st,.slice a2 n c2,.slice ka2 ks.length kc2] 43)).drewN m)):=(((Kp.refl _ _).alloc _).alloc _).drewN m
  clear hk8
  go_wp2_with fail
  go_loopw [43] (fun x wr => ∃ (i:Nat),x=.int .i64 i/\i<=n/\Hid (Kp Nil w wr)/\Hid (Blk wr w.heap.size [.int .i64 K,.string st,.slice a1 n c1,.slice ka1 ks.length kc1] 80)/\Hid (Blk wr (w.heap.size+1) [.int .i64 K,.string st,.slice a2 n c2,.slice ka2 ks.length kc2] 43)) (fun x _ => n - (intOf x).toNat)
  case atStart => exact ⟨0,rfl,Nat.zero_le _,hK,hB1,hB2⟩
  case round =>
   obtain ⟨i,rfl,hi,hk,hb1,hb2⟩:=hrel
   rcases qqg i n with hlt | hge
   ·have hit:i<items.length:=by rw [HN.out];exact hlt
    obtain ⟨ys1,t1,q1⟩:=RpL.at i hit (RpL.kp L1.out hk.out (fun _ _ x => x))
    obtain ⟨ys2,t2,q2⟩:=RepL.at i hit (RepL.kp L2.out hk.out (fun _ _ x => x))
    obtain ⟨u0,u1,u2,u3,rfl⟩:=RpT.node4 t1
    obtain ⟨z0,z1,z2,z3,rfl⟩:=RepT.node4 t2
    obtain ⟨g1,rfl,_⟩:=F1.out _ _ (q1 0 u0 rfl)
    obtain ⟨g2,rfl,_⟩:=F2.out _ _ (q2 0 z0 rfl)
    have hr1:=own_kp R1.out hk.out (fun _ _ x => x)
    have hr2:=own_kp R2.out hk.out (fun _ _ x => x)
    have cl1:∀ j u,[u0,u1,u2,u3][j]?=some u->wr.cell? ⟨g1,i * 4+j,none⟩=some u:=fun j u hu => by
     obtain ⟨a,c,e,f⟩:=row_form hr1
     injection e with e _ _
     obtain ⟨g,e2,f2⟩:=f _ _ (q1 j u hu)
     rw [e2] at e;injection e with e;injection e with e;subst e
     exact f2
    have cl2:∀ j u,[z0,z1,z2,z3][j]?=some u->wr.cell? ⟨g2,i * 4+j,none⟩=some u:=fun j u hu => by
     obtain ⟨a,c,e,f⟩:=row_form hr2
     injection e with e _ _
     obtain ⟨g,e2,f2⟩:=f _ _ (q2 j u hu)
     rw [e2] at e;injection e with e;injection e with e;subst e
     exact f2
    have d10:wr.cell? ⟨g1,i * 4,none⟩=some u0:=cl1 0 u0 rfl
    have d11:wr.cell? ⟨g1,i * 4+1,none⟩=some u1:=cl1 1 u1 rfl
    have d12:wr.cell? ⟨g1,i * 4+2,none⟩=some u2:=cl1 2 u2 rfl
    have d13:wr.cell? ⟨g1,i * 4+3,none⟩=some u3:=cl1 3 u3 rfl
    have d20:wr.cell? ⟨g2,i * 4,none⟩=some z0:=cl2 0 z0 rfl
    have d21:wr.cell? ⟨g2,i * 4+1,none⟩=some z1:=cl2 1 z1 rfl
    have d22:wr.cell? ⟨g2,i * 4+2,none⟩=some z2:=cl2 2 z2 rfl
    have d23:wr.cell? ⟨g2,i * 4+3,none⟩=some z3:=cl2 3 z3 rfl
    have o2:=hb1.out.cell 2 rfl
    have p2:=hb2.out.cell 2 rfl
    have hi1:(i:Int)<n:=by omega
    have T1:=qqh t1
    have T2:=qqh t2
    have hm:=HI.out items[i] (List.getElem_mem hit)
    have HM:=qqh hm
    clear t1 t2 q1 q2 hr1 hr2 cl1 cl2 hm
    go_wp2_with fail
    go_still_tail 10,(by kernel_rfl)
    change wpList _ _ _ _ _ wr.drew
    have T1':=RpT.kp T1.out (((Kp.refl Nil wr).drew)) (fun _ _ x => x)
    have T2':=RepT.kp T2.out (((Kp.refl Nil wr).drew)) (fun _ _ x => x)
    have hm':=HM.out wr.drew b1 b2 S1 S2 _ _ T1' T2'
    clear T1' T2'
    go_wp2_with (go_at_call 36;refine hm'.mono ?_;rintro e w4 ⟨rfl,hk4⟩)
    have hk5:Hid (Kp Nil w w4):=hk.out.trans (Kp.trans ((Kp.refl Nil wr).drew) hk4)
    have hb1':=qqh (Blk.kpNil (hb1.out.kpNil ((Kp.refl Nil wr).drew)) hk4)
    have hb2':=qqh (Blk.kpNil (hb2.out.kpNil ((Kp.refl Nil wr).drew)) hk4)
    go_wp2_with fail
    go_roundw
    case rel => exact ⟨i+1,rfl,by omega,hk5,hb1',hb2'⟩
    case measure => simp [intOf];omega
   ·obtain rfl:i=n:=by omega
    go_wp2_with fail
    go_ret
    exact ⟨rfl,hk.out⟩)
 exact go
end Go.Proofs.YtpgmddjgcgpoeaaGreat
