/-
  A part of the proof.
-/
import Derived.Test.YtpgmddjgcgpoeaaGreatD38
import Derived.Test.YtpgmddjgcgpoeaaGreatD41
import Derived.Test.YtpgmddjgcgpoeaaGreatD21
import Derived.Deep.DeepCutAuto
import Derived.Deep.RegionWith
import Derived.Deep.RegionLaw
import Derived.Deep.RegionHeld3
import Derived.Test.YtpgmddjgcgpoeaaGreatD39
set_option linter.unusedVariables false
set_option linter.unusedSimpArgs false
set_option maxRecDepth 100000
set_option maxHeartbeats 8000000
namespace Go.Proofs.YtpgmddjgcgpoeaaGreat
open Go.RowKit
mutual
theorem niT:∀ (t:Tree),tSize t<=100000000->Wf t->t.keys.length<=100000000->NI t
 | .mk K l items ks,h,hw,hk => by
  have hk:ks.length<=100000000:=hk;have hw:=Wf.iff.1 hw;rw [tSize] at h;by_cases h8:K=8
  ·rw [if_pos h8] at h;have hl:=lSize_len items;exact ni_core K l items ks (niL items (by omega) (hw.2.1 h8).2) (by omega) (by omega)
  rw [if_neg h8] at h;by_cases h9:K=9
  ·rw [if_pos h9] at h;have hl:=bSize_len items;exact ni_core K l items ks (niB items (by omega) (hw.2.2.1 h9).2) (by omega) (by omega)
  ·have hi:=hw.2.2.2 h8 h9;subst hi;exact ni_core K l [] ks (fun t ht => by cases ht) (by simp) (by omega)
theorem niL:∀ (ts:List Tree),lSize ts<=100000000->WfL ts->∀ t ∈ ts,NI t
 | [],_,_,t,ht => by cases ht
 | u :: us,h,hw,t,ht => by
  rw [lSize] at h;rw [WfL.cons] at hw;rcases List.mem_cons.1 ht with e | ht
  ·rw [e];exact niT u (by omega) hw.1 (by rw [hw.2.1];simp)
  ·exact niL us (by omega) hw.2.2 t ht
theorem niB:∀ (ts:List Tree),bSize ts<=100000000->WfB ts->∀ t ∈ ts,NI t
 | [],_,_,t,ht => by cases ht
 | u :: us,h,hw,t,ht => by
  rw [bSize] at h;rw [WfB.cons] at hw;rcases List.mem_cons.1 ht with e | ht
  ·rw [e];exact niT u (by omega) hw.1 (by omega)
  ·exact niB us (by omega) hw.2.2 t ht
end
theorem RpX.at {w:World} {base:Nat} {S:Nat->Prop}:∀ {es:List Ex} {xs:List Value} (i:Nat) (hi:i<es.length),RpX w base S es xs ->
  ∃ vk vcs,OwnS w base vk es[i].keys/\RpT w base S es[i].val vcs/\∀ j u,(.int .i64 (es[i].kind:Nat) :: vk :: vcs)[j]?=some u->xs[i * 6+j]?=some u
 | [],_,i,hi,_ => by simp at hi
 | e :: es,xs,i,hi,h => by
  obtain ⟨vk,vcs,rest,rfl,h4,h5,h6,h7⟩:=h;have hl:=RpT.length h6;cases i with
  | zero => exact ⟨vk,vcs,h4,h6,fun j u hu => by
    have hj:j<(Value.int .i64 (e.kind:Nat) :: vk :: vcs).length:=(List.getElem?_eq_some_iff.1 hu).1
    rw [Nat.zero_mul,Nat.zero_add,<- List.cons_append,<- List.cons_append,List.getElem?_append_left hj];exact hu⟩
  | succ i =>
   obtain ⟨vk',vcs',h3,h3',h4'⟩:=RpX.at i (by simpa using hi) h7;exact ⟨vk',vcs',by simpa using h3,by simpa using h3',fun j u hu => by
    rw [<- List.cons_append,<- List.cons_append,List.getElem?_append_right (by simp [hl];omega),show (i+1) * 6+j - (Value.int .i64 (e.kind:Nat) :: vk :: vcs).length=i * 6+j by simp [hl];omega]
    exact h4' j u (by simpa using hu)⟩
theorem RepX.at {w:World} {base:Nat} {S:Nat->Prop}:∀ {es:List Ex} {xs:List Value} (i:Nat) (hi:i<es.length),RepX w base S es xs ->
  ∃ vk vcs,OwnS w base vk es[i].keys/\RepT w base S es[i].val vcs/\∀ j u,(.int .i64 (es[i].kind:Nat) :: vk :: vcs)[j]?=some u->xs[i * 6+j]?=some u
 | [],_,i,hi,_ => by simp at hi
 | e :: es,xs,i,hi,h => by
  obtain ⟨vk,vcs,rest,rfl,h4,h5,h6,h7⟩:=h;have hl:=RepT.length h6;cases i with
  | zero => exact ⟨vk,vcs,h4,h6,fun j u hu => by
    have hj:j<(Value.int .i64 (e.kind:Nat) :: vk :: vcs).length:=(List.getElem?_eq_some_iff.1 hu).1
    rw [Nat.zero_mul,Nat.zero_add,<- List.cons_append,<- List.cons_append,List.getElem?_append_left hj];exact hu⟩
  | succ i =>
   obtain ⟨vk',vcs',h3,h3',h4'⟩:=RepX.at i (by simpa using hi) h7;exact ⟨vk',vcs',by simpa using h3,by simpa using h3',fun j u hu => by
    rw [<- List.cons_append,<- List.cons_append,List.getElem?_append_right (by simp [hl];omega),show (i+1) * 6+j - (Value.int .i64 (e.kind:Nat) :: vk :: vcs).length=i * 6+j by simp [hl];omega]
    exact h4' j u (by simpa using hu)⟩
theorem range4 {w:World} {g o:Nat} {a b c d:Value} (h0:w.cell? ⟨g,o+2,none⟩=some a) (h1:w.cell? ⟨g,o+3,none⟩=some b) (h2:w.cell? ⟨g,o+4,none⟩=some c) (h3:w.cell? ⟨g,o+5,none⟩=some d):w.rangeAt g (o+2) [a,b,c,d]:=by
 intro j v hv
 match j,hv with
 | 0,hv => injection hv with hv;subst hv;exact h0
 | 1,hv => injection hv with hv;subst hv;exact h1
 | 2,hv => injection hv with hv;subst hv;exact h2
 | 3,hv => injection hv with hv;subst hv;exact h3
 | j+4,hv => simp at hv
theorem Kp.cellN {w w':World} {a:Addr} {v:Value} (k:Kp Nil w w') (h:w.cell? a=some v):w'.cell? a=some v :=
 (World.cell?_of_block (k.block a.block (World.block_lt_of_cell? (w:=w) (a:=a) h) (fun x => x))).trans h
theorem exprsAre_c (w:World) (b1 b2:Nat) (S1 S2:Nat->Prop) (v1 v2:Value) (es:List Ex) (xs1 xs2:List Value) (r1:w.ownsRow b1 83 6 v1 es.length xs1) (r2:w.ownsRow b2 45 6 v2 es.length xs2) (l1:RpX w b1 S1 es xs1) (l2:RepX w b2 S2 es xs2)
  (hes:∀ e ∈ es,ExOk e) (hln:es.length<=1073741824):Calls Tryz.prog 11 #[v1,v2] w fun e w' => e=.returned (.bool true)/\Kp Nil w w':=by
 obtain ⟨a1,c1,rfl,f1⟩:=row_form r1;obtain ⟨a2,c2,rfl,f2⟩:=row_form r2;have R1:=qqh r1;have R2:=qqh r2;have L1:=qqh l1;have L2:=qqh l2;have F1:=qqh f1;have F2:=qqh f2;have HE:=qqh hes;obtain ⟨n,hn⟩:∃ n,es.length=n:=⟨_,rfl⟩;rw [hn] at hln ⊢;have HN:Hid (es.length=n):=hn;clear r1 r2 l1 l2 f1 f2 hes hn;go_enter Tryz.func11,Tryz.ntmps11;go_wp2_with fail
 go_loopw [13] (fun x wr => ∃ (i:Nat),x=.int .i64 i/\i<=n/\Hid (Kp Nil w wr)) (fun x _ => n - (intOf x).toNat)
 case atStart => exact ⟨0,rfl,Nat.zero_le _,Kp.refl _ _⟩
 case round =>
  obtain ⟨i,rfl,hi,hk⟩:=hrel;rcases qqg i n with hlt | hge
  ·have hit:i<es.length:=(by rw [HN.out];exact hlt);have hr1:=own_kp R1.out hk.out (fun _ _ x => x);have hr2:=own_kp R2.out hk.out (fun _ _ x => x);obtain ⟨vk1,ys1,k1,t1,q1⟩:=RpX.at i hit (RpX.leave (w:=w) (w':=wr) (S':=S1) (fun b hb _ => ⟨hb,fun hl => hk.out.block b hl (fun x => x)⟩) (qqr _) _ _ L1.out);obtain ⟨vk2,ys2,k2,t2,q2⟩:=RepX.at i hit (RepX.leave (w:=w) (w':=wr) (S':=S2) (fun b hb _ => ⟨hb,fun hl => hk.out.block b hl (fun x => x)⟩) (qqr _) _ _ L2.out);obtain ⟨u0,u1,u2,u3,rfl⟩:=RpT.node4 t1;obtain ⟨z0,z1,z2,z3,rfl⟩:=RepT.node4 t2;obtain ⟨g1,rfl,_⟩:=F1.out _ _ (q1 0 _ rfl);obtain ⟨g2,rfl,_⟩:=F2.out _ _ (q2 0 _ rfl);have hx:=HE.out es[i] (List.getElem_mem hit);obtain ⟨e,he⟩:∃ e,es[i]=e:=⟨_,rfl⟩;rw [he] at k1 t1 q1 k2 t2 q2 hx;clear he;have cl1:∀ j u,(.int .i64 (e.kind:Nat) :: vk1 :: [u0,u1,u2,u3])[j]?=some u->wr.cell? ⟨g1,i * 6+j,none⟩=some u:=fun j u hu => by
    obtain ⟨a,c,e,f⟩:=row_form hr1;injection e with e _ _;obtain ⟨g,e2,f2⟩:=f _ _ (q1 j u hu);rw [e2] at e;injection e with e;injection e with e;subst e;exact f2
   have cl2:∀ j u,(.int .i64 (e.kind:Nat) :: vk2 :: [z0,z1,z2,z3])[j]?=some u->wr.cell? ⟨g2,i * 6+j,none⟩=some u:=fun j u hu => by
    obtain ⟨a,c,e,f⟩:=row_form hr2;injection e with e _ _;obtain ⟨g,e2,f2⟩:=f _ _ (q2 j u hu);rw [e2] at e;injection e with e;injection e with e;subst e;exact f2
   have d10:wr.cell? ⟨g1,i * 6,none⟩=some (.int .i64 (e.kind:Nat)):=cl1 0 _ rfl;have d11:wr.cell? ⟨g1,i * 6+1,none⟩=some vk1:=cl1 1 _ rfl;have d12:wr.cell? ⟨g1,i * 6+2,none⟩=some u0:=cl1 2 _ rfl;have d13:wr.cell? ⟨g1,i * 6+3,none⟩=some u1:=cl1 3 _ rfl;have d14:wr.cell? ⟨g1,i * 6+4,none⟩=some u2:=cl1 4 _ rfl;have d15:wr.cell? ⟨g1,i * 6+5,none⟩=some u3:=cl1 5 _ rfl;have d20:wr.cell? ⟨g2,i * 6,none⟩=some (.int .i64 (e.kind:Nat)):=cl2 0 _ rfl;have d21:wr.cell? ⟨g2,i * 6+1,none⟩=some vk2:=cl2 1 _ rfl;have d22:wr.cell? ⟨g2,i * 6+2,none⟩=some z0:=cl2 2 _ rfl;have d23:wr.cell? ⟨g2,i * 6+3,none⟩=some z1:=cl2 3 _ rfl;have d24:wr.cell? ⟨g2,i * 6+4,none⟩=some z2:=cl2 4 _ rfl;have d25:wr.cell? ⟨g2,i * 6+5,none⟩=some z3:=cl2 5 _ rfl;have hkl:e.keys.length<=1073741824:=(by have:=hx.size;omega);have hi1:(i:Int)<n:=(by omega);have T1:=qqh t1;have T2:=qqh t2;have K1:=qqh k1;have K2:=qqh k2;obtain ⟨ka1,kl1,kc1,rfl⟩:=IsSl.own k1;obtain ⟨ka2,kl2,kc2,rfl⟩:=IsSl.own k2;have HX:=qqh hx;obtain ⟨ek,ekeys,eval⟩:=e;clear t1 t2 q1 q2 hr1 hr2 cl1 cl2 k1 k2 hx;dsimp only at d10 d20 hkl;by_cases h0:ek=0
   ·subst h0;have hni:Hid (NI eval):=niT eval (by have:ekeys.length+tSize eval<=50000000:=HX.out.size;omega) (HX.out.wf rfl).1 (by rw [(HX.out.wf rfl).2];simp);have d10:wr.cell? ⟨g1,i * 6,none⟩=some (.int .i64 0):=d10;have d20:wr.cell? ⟨g2,i * 6,none⟩=some (.int .i64 0):=d20;have ld1:∀ w':World,(w'.cell? ⟨g1,i * 6,none⟩=some (.int .i64 0)/\w'.cell? ⟨g1,i * 6+1,none⟩=some (.slice ka1 kl1 kc1)/\w'.cell? ⟨g1,i * 6+2,none⟩=some (u0)/\w'.cell? ⟨g1,i * 6+3,none⟩=some (u1)/\w'.cell? ⟨g1,i * 6+4,none⟩=some (u2)/\w'.cell? ⟨g1,i * 6+5,none⟩=some (u3)/\w'.cell? ⟨g2,i * 6,none⟩=some (.int .i64 0)/\w'.cell? ⟨g2,i * 6+1,none⟩=some (.slice ka2 kl2 kc2)/\w'.cell? ⟨g2,i * 6+2,none⟩=some (z0)/\w'.cell? ⟨g2,i * 6+3,none⟩=some (z1)/\w'.cell? ⟨g2,i * 6+4,none⟩=some (z2)/\w'.cell? ⟨g2,i * 6+5,none⟩=some (z3))->(Instr.loadAt 80 (.pointer (some ⟨g1,i * 6+2,none⟩))).run Tryz.prog w'=.ok (.agg #[u0,u1,u2,u3]) w':=fun w' h =>
     run_loadAt_mid w' g1 (i * 6+2) 80 [u0,u1,u2,u3] _ (range4 h.2.2.1 h.2.2.2.1 h.2.2.2.2.1 h.2.2.2.2.2.1) Tryz.underlying80 rfl sz80
    have ld2:∀ w':World,(w'.cell? ⟨g1,i * 6,none⟩=some (.int .i64 0)/\w'.cell? ⟨g1,i * 6+1,none⟩=some (.slice ka1 kl1 kc1)/\w'.cell? ⟨g1,i * 6+2,none⟩=some (u0)/\w'.cell? ⟨g1,i * 6+3,none⟩=some (u1)/\w'.cell? ⟨g1,i * 6+4,none⟩=some (u2)/\w'.cell? ⟨g1,i * 6+5,none⟩=some (u3)/\w'.cell? ⟨g2,i * 6,none⟩=some (.int .i64 0)/\w'.cell? ⟨g2,i * 6+1,none⟩=some (.slice ka2 kl2 kc2)/\w'.cell? ⟨g2,i * 6+2,none⟩=some (z0)/\w'.cell? ⟨g2,i * 6+3,none⟩=some (z1)/\w'.cell? ⟨g2,i * 6+4,none⟩=some (z2)/\w'.cell? ⟨g2,i * 6+5,none⟩=some (z3))->(Instr.loadAt 43 (.pointer (some ⟨g2,i * 6+2,none⟩))).run Tryz.prog w'=.ok (.agg #[z0,z1,z2,z3]) w':=fun w' h =>
     run_loadAt_mid w' g2 (i * 6+2) 43 [z0,z1,z2,z3] _ (range4 h.2.2.2.2.2.2.2.2.1 h.2.2.2.2.2.2.2.2.2.1 h.2.2.2.2.2.2.2.2.2.2.1 h.2.2.2.2.2.2.2.2.2.2.2) Tryz.underlying43 rfl sz43
    go_upto_region 6 with fail;go_cut [62] (fun c wx => c=.bool false/\Hid (Kp Nil w wx))
    case first =>
     go_region_held3 (fun w' => w'.cell? ⟨g1,i * 6,none⟩=some (.int .i64 0)/\w'.cell? ⟨g1,i * 6+1,none⟩=some (.slice ka1 kl1 kc1)/\w'.cell? ⟨g1,i * 6+2,none⟩=some (u0)/\w'.cell? ⟨g1,i * 6+3,none⟩=some (u1)/\w'.cell? ⟨g1,i * 6+4,none⟩=some (u2)/\w'.cell? ⟨g1,i * 6+5,none⟩=some (u3)/\w'.cell? ⟨g2,i * 6,none⟩=some (.int .i64 0)/\w'.cell? ⟨g2,i * 6+1,none⟩=some (.slice ka2 kl2 kc2)/\w'.cell? ⟨g2,i * 6+2,none⟩=some (z0)/\w'.cell? ⟨g2,i * 6+3,none⟩=some (z1)/\w'.cell? ⟨g2,i * 6+4,none⟩=some (z2)/\w'.cell? ⟨g2,i * 6+5,none⟩=some (z3)) (go_keep) (first
      | ((go_at_call 35;refine (keysAre_c _ b1 b2 _ _ ekeys (own_kp K1.out ((Kp.refl Nil wr).drewN _) (fun _ _ x => x)) (own_kp K2.out ((Kp.refl Nil wr).drewN _) (fun _ _ x => x)) hkl).mono ?_;rintro e9 w9 ⟨rfl,m9,rfl⟩))
      | ((go_at_call 36;refine (hni.out _ b1 b2 S1 S2 _ _ (RpT.kp T1.out ((Kp.refl Nil wr).drewN _) (fun _ _ x => x)) (RepT.kp T2.out ((Kp.refl Nil wr).drewN _) (fun _ _ x => x))).mono ?_;rintro e9 w9 ⟨rfl,hk9⟩;have cd10:w9.cell? ⟨g1,i * 6,none⟩=some (.int .i64 0):=Kp.cellN hk9 d10;have cd11:w9.cell? ⟨g1,i * 6+1,none⟩=some (.slice ka1 kl1 kc1):=Kp.cellN hk9 d11;have cd12:w9.cell? ⟨g1,i * 6+2,none⟩=some (u0):=Kp.cellN hk9 d12;have cd13:w9.cell? ⟨g1,i * 6+3,none⟩=some (u1):=Kp.cellN hk9 d13;have cd14:w9.cell? ⟨g1,i * 6+4,none⟩=some (u2):=Kp.cellN hk9 d14;have cd15:w9.cell? ⟨g1,i * 6+5,none⟩=some (u3):=Kp.cellN hk9 d15;have cd20:w9.cell? ⟨g2,i * 6,none⟩=some (.int .i64 0):=Kp.cellN hk9 d20;have cd21:w9.cell? ⟨g2,i * 6+1,none⟩=some (.slice ka2 kl2 kc2):=Kp.cellN hk9 d21;have cd22:w9.cell? ⟨g2,i * 6+2,none⟩=some (z0):=Kp.cellN hk9 d22;have cd23:w9.cell? ⟨g2,i * 6+3,none⟩=some (z1):=Kp.cellN hk9 d23;have cd24:w9.cell? ⟨g2,i * 6+4,none⟩=some (z2):=Kp.cellN hk9 d24;have cd25:w9.cell? ⟨g2,i * 6+5,none⟩=some (z3):=Kp.cellN hk9 d25)))
     go_wp2_with fail
     go_meet;exact ⟨rfl,Kp.trans hk.out (Kp.trans ((Kp.refl Nil wr).drewN _) hk9)⟩
    case rest =>
     obtain ⟨rfl,hk5⟩:=hcut;go_wp2_with fail
     go_roundw
     case rel => exact ⟨i+1,rfl,by omega,hk5⟩
     case measure => simp [intOf];omega
   ·have h0b:((ek:Int) == 0)=false:=qqn (by omega);have H0:=qqh h0;clear h0;go_wp2_with (go_quiet ((go_at_call 35;exact Calls.quiet_of (keysAre_c _ b1 b2 _ _ ekeys (own_kp K1.out ((Kp.refl Nil wr).drewN _) (fun _ _ x => x)) (own_kp K2.out ((Kp.refl Nil wr).drewN _) (fun _ _ x => x)) hkl))))
    go_roundw
    case rel => exact ⟨i+1,rfl,by omega,hk.out.drewN _⟩
    case measure => simp [intOf];omega
  ·obtain rfl:i=n:=(by omega);go_wp2_with fail
   go_ret;exact ⟨rfl,hk.out⟩
theorem same_c (D:Doc) (A:Option Addr) (C:Nat) (w:World) (hd:DocAt D A C w) (hA:∀ a,A=some a->a.block<w.heap.size) (hB:D.n<=1000000) :
  Calls Tryz.prog 6 #[.slice A D.n C] w fun e w' => e=.returned (.bool true)/\Kp Nil w w':=by
 have h9:=read_c D A C w hd hA;have h10:=fun (w1:World) (h:DocAt D A C w1) => read2_c D A C w1 h hB
 have HD:=qqh hd;obtain ⟨r,hr⟩:∃ r,docRun D 0 []=r:=⟨_,rfl⟩;rw [hr] at h9 h10;clear hr hd hA;go_enter Tryz.func6,Tryz.ntmps6;go_wp2_with fail
 refine h9.mono ?_;rintro e w1 ⟨hk1,hp1⟩;have hd1:=qqh (HD.out.kp hk1 (fun _ _ x => x));have HK1:=qqh hk1;clear hk1 h9;cases r with
 | good es p =>
  obtain ⟨v,xs,rfl,ho,hx⟩:=hp1;have HO:=qqh ho;have HX:=qqh hx;obtain ⟨a1,c1,rfl,_⟩:=row_form ho;clear ho hx;go_wp2_with fail
  refine (h10 w1 hd1.out (fun h => by cases h)).mono ?_;rintro e w2 ⟨hk2,v2,xs2,rfl,ho2,hx2,hl,hex⟩;have HO2:=qqh ho2;have HX2:=qqh hx2;have HK2:=qqh hk2;have HEX:=qqh hex;obtain ⟨a2,c2,rfl,_⟩:=row_form ho2;clear ho2 hx2 hk2 hex h10;go_wp2_with fail
  refine (exprsAre_c w2 _ _ _ _ _ _ es xs2 xs HO2.out (own_kp HO.out HK2.out (fun _ _ x => x)) HX2.out (RepX.leave (fun b hb _ => ⟨hb,fun hl => HK2.out.block b hl (fun x => x)⟩) (qqr _) es xs HX.out) HEX.out (by omega)).mono ?_;rintro e w3 ⟨rfl,hk3⟩;have HK3:=qqh hk3;clear hk3;go_wp2_with fail
  go_ret;exact ⟨rfl,HK1.out.trans (HK2.out.trans HK3.out)⟩
 | bad =>
  obtain rfl:=hp1;go_wp2_with fail
  refine (h10 w1 hd1.out (fun h => by cases h)).mono ?_;rintro e w2 ⟨hk2,rfl⟩;have HK2:=qqh hk2;clear hk2 h10;go_wp2_with fail
  go_ret;exact ⟨rfl,HK1.out.trans HK2.out⟩
 | opn =>
  obtain rfl:=hp1;clear h10;go_wp2_with fail
  go_ret;exact ⟨rfl,HK1.out⟩
end Go.Proofs.YtpgmddjgcgpoeaaGreat
