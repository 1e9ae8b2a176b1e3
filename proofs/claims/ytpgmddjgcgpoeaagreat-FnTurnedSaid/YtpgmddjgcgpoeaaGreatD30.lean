/-
  A part of the proof.
-/
import Derived.Test.YtpgmddjgcgpoeaaGreatD29
import Derived.Test.YtpgmddjgcgpoeaaGreatD10
import Derived.Test.YtpgmddjgcgpoeaaGreatD13
import Derived.Test.YtpgmddjgcgpoeaaGreatD19
import Derived.Deep.DeepCutAuto
import Derived.Deep.RegionLaw
import Derived.Test.YtpgmddjgcgpoeaaGreatD18
set_option linter.unusedVariables false
set_option linter.unusedSimpArgs false
set_option maxRecDepth 100000
set_option maxHeartbeats 8000000
namespace Go.Proofs.YtpgmddjgcgpoeaaGreat
open Go.RowKit
theorem inode_c (b:Nat) (st:Bool) (v:Value) (w:World) (hB:Blk w b [.bool st,v] 111) :
  Calls Tryz.prog 63 #[.pointer (some ⟨b,0,none⟩)] w fun e w' => e=.returned v/\w'=w:=by
 have b1:=hB.cell 1 rfl;clear hB;go_enter Tryz.func63,Tryz.ntmps63;go_wp2_with fail
 go_ret;exact ⟨rfl,rfl⟩
theorem IsP.nodePtr (g h:Nat):∃ a,nodePtr g h=.pointer a:=by cases h <;> exact ⟨_,rfl⟩
theorem inext0_c (D:Doc) (A:Option Addr) (C bp b:Nat) (w:World) (left nd er:Value) (ns:List Nd) (nst g h:Nat) (hP:PN D A C bp w left nd ns er nst) (hP2:PN D A C bp (w.setCell ⟨b,0,none⟩ (.bool true)) left nd ns er nst) (hg:nd.ownBlock=some g) (hh:h<=ns.length) (hk:∀ n ∈ ns,n.kind ≠ 0) (hB:Blk w b [.bool false,nodePtr g h] 111) :
  Calls Tryz.prog 62 #[.pointer (some ⟨b,0,none⟩)] w fun e w' => e=.returned (.bool (decide (h ≠ 0)))/\w'=w.setCell ⟨b,0,none⟩ (.bool true):=by
 have b0:=hB.cell 0 rfl;have b1:=hB.cell 1 rfl;have bf:=hB.free 0;have HP2:=qqh hP2;have HG:=qqh hg;have HK:=qqh hk;clear hB hP hP2 hg hk;obtain ⟨a,ha⟩:=IsP.nodePtr g h;rw [ha] at b1;have HA:=qqh ha;clear ha;go_enter Tryz.func62,Tryz.ntmps62;go_wp2_with fail
 rw [<- HA.out];refine (valid_c D A C bp _ left nd er ns nst g h (by exact HP2.out) HG.out hh HK.out).mono ?_;rintro e w1 ⟨rfl,rfl⟩;go_wp2_with fail
 go_ret;refine ⟨?_,rfl⟩;show Ending.returned (Value.bool _)=_;refine ret_bool ?_;simp
theorem inext1_c (D:Doc) (A:Option Addr) (C bp b:Nat) (w:World) (left nd er:Value) (ns:List Nd) (nst g i:Nat) (n:Nd) (hP:PN D A C bp w left nd ns er nst) (hP2:∀ m,PN D A C bp ((w.drewN m).setCell ⟨b,1,none⟩ (nodePtr g n.next)) left nd ns er nst) (hg:nd.ownBlock=some g) (hn:ns[i]?=some n) (hx:n.next<=ns.length) (hN:ns.length<=268435456) (hk:∀ n ∈ ns,n.kind ≠ 0) (hB:Blk w b [.bool true,nodePtr g (i+1)] 111) :
  Calls Tryz.prog 62 #[.pointer (some ⟨b,0,none⟩)] w fun e w' => e=.returned (.bool (decide (n.next ≠ 0)))/\∃ m,w'=(w.drewN m).setCell ⟨b,1,none⟩ (nodePtr g n.next):=by
 have b0:=hB.cell 0 rfl;have b1:=hB.cell 1 rfl;have bf:=hB.free 1;have HP:=qqh hP;have HP2:=qqh hP2;have HG:=qqh hg;have HNN:=qqh hn;have HK:=qqh hk;have hi:i+1<=ns.length:=(List.getElem?_eq_some_iff.1 hn).1;clear hB hP hP2 hg hk hn;have b1:w.cell? ⟨b,1,none⟩=some (.pointer (some ⟨g,7 * i,none⟩)):=b1;go_enter Tryz.func62,Tryz.ntmps62;go_wp2_with fail
 refine (valid_c D A C bp _ left nd er ns nst g (i+1) (by exact HP.out) HG.out hi HK.out).mono ?_;rintro e w1 ⟨rfl,rfl⟩;rw [qqt (show i+1 ≠ 0 by omega)];go_wp2_with fail
 refine (next_c D A C bp _ left nd er ns nst g i n (by exact HP.out) HG.out HNN.out hx hN).mono ?_;rintro e w2 ⟨rfl,m,rfl⟩;obtain ⟨a,ha⟩:=IsP.nodePtr g n.next;rw [ha];have HA:=qqh ha;clear ha;go_wp2_with fail
 rw [<- HA.out];refine (valid_c D A C bp _ left nd er ns nst g n.next (by exact HP2.out m) HG.out hx HK.out).mono ?_;rintro e w1 ⟨rfl,rfl⟩;go_wp2_with fail
 go_ret;refine ⟨?_,m,rfl⟩;show Ending.returned (Value.bool _)=_;refine ret_bool ?_;simp
theorem children_c (D:Doc) (A:Option Addr) (C bp:Nat) (w:World) (left nd er:Value) (ns:List Nd) (nst g i:Nat) (n:Nd) (hP:PN D A C bp w left nd ns er nst) (hg:nd.ownBlock=some g) (hn:ns[i]?=some n) (hc:n.child<=ns.length) (hN:ns.length<=268435456) :
  Calls Tryz.prog 65 #[.pointer (some ⟨g,7 * i,none⟩)] w fun e w' => e=.returned (.agg #[.bool false,nodePtr g n.child])/\Kp Nil w w':=by
 have HP:=qqh hP;have HG:=qqh hg;have HN:=qqh hn;clear hP hg hn;go_enter Tryz.func65,Tryz.ntmps65;go_wp2_with fail
 refine (child_c D A C bp _ left nd er ns nst g i n (by exact HP.out.nil ((Kp.refl Nil w).alloc _)) HG.out HN.out hc hN).mono ?_;rintro e w1 ⟨rfl,m,rfl⟩;obtain ⟨a,ha⟩:=IsP.nodePtr g n.child;rw [ha];have HA:=qqh ha;clear ha;go_wp2_with fail
 refine bodyPost_ret (v:=.agg #[.bool false,.pointer a]) (by simp [results,Tryz.results65,go_sem]) rfl ?_;refine ⟨by rw [HA.out],?_⟩;exact Kp.setCell (Kp.setCell (((Kp.refl Nil w).alloc _).drewN m) (.inr (qqr _)) _) (.inr (qqr _)) _
theorem keyT_c (D:Doc) (A:Option Addr) (C bp:Nat) (w:World) (left nd er:Value) (ns:List Nd) (nst g i:Nat) (n:Nd) (hP:PN D A C bp w left nd ns er nst) (hg:nd.ownBlock=some g) (hn:ns[i]?=some n) (hK:n.kind=3\/n.kind=4) (hc:n.child<=ns.length) (hN:ns.length<=268435456) :
  Calls Tryz.prog 61 #[.pointer (some ⟨g,7 * i,none⟩)] w fun e w' => e=.returned (.agg #[.bool false,nodePtr g n.child])/\Kp Nil w w':=by
 have hgl:=(hP.rowlt g hg).2;obtain ⟨d,c,h0,h3,h4,h5,h6,h7,h8,h9⟩:=hP.node hg hn;have HP:=qqh hP;have HG:=qqh hg;have HN:=qqh hn;clear hP hg hn h3 h4 h5 h6 h7 h8 h9;rcases hK with hK | hK
 all_goals
  rw [hK] at h0;clear hK;go_enter Tryz.func61,Tryz.ntmps61;go_wp2_with fail
  refine (child_c D A C bp _ left nd er ns nst g i n (by exact HP.out.nil ((Kp.refl Nil w).alloc _)) HG.out HN.out hc hN).mono ?_;rintro e w1 ⟨rfl,m,rfl⟩;obtain ⟨a,ha⟩:=IsP.nodePtr g n.child;rw [ha];have HA:=qqh ha;clear ha;go_wp2_with fail
  refine bodyPost_ret (v:=.agg #[.bool false,.pointer a]) (by simp [results,Tryz.results61,go_sem]) rfl ?_;refine ⟨by rw [HA.out],?_⟩;exact Kp.setCell (Kp.setCell (((Kp.refl Nil w).alloc _).drewN m) (.inr (qqr _)) _) (.inr (qqr _)) _
theorem keyV_c (D:Doc) (A:Option Addr) (C bp:Nat) (w:World) (left nd er:Value) (ns:List Nd) (nst g i j:Nat) (n n2:Nd) (hP:PN D A C bp w left nd ns er nst) (hg:nd.ownBlock=some g) (hn:ns[i]?=some n) (hK:n.kind=5) (hc:n.child=j+1) (hn2:ns[j]?=some n2) (hx:n2.next<=ns.length) (hN:ns.length<=268435456) (hk:∀ n ∈ ns,n.kind ≠ 0) :
  Calls Tryz.prog 61 #[.pointer (some ⟨g,7 * i,none⟩)] w fun e w' => e=.returned (.agg #[.bool false,nodePtr g n2.next])/\Kp Nil w w':=by
 have hgl:=(hP.rowlt g hg).2;obtain ⟨d,c,h0,h3,h4,h5,h6,h7,h8,h9⟩:=hP.node hg hn;have hj:j+1<=ns.length:=(List.getElem?_eq_some_iff.1 hn2).1;have HP:=qqh hP;have HG:=qqh hg;have HN:=qqh hn;have HN2:=qqh hn2;have HK:=qqh hk;have HC:=qqh hc;clear hP hg hn hn2 hk hc h3 h4 h5 h6 h7 h8 h9;rw [hK] at h0;clear hK;go_enter Tryz.func61,Tryz.ntmps61;go_wp2_with fail
 refine (child_c D A C bp _ left nd er ns nst g i n (by exact HP.out.nil ((Kp.refl Nil w).alloc _)) HG.out HN.out (by rw [HC.out];exact hj) hN).mono ?_;rintro e w1 ⟨rfl,m,rfl⟩;rw [HC.out];have hP1:Hid (PN D A C bp ((w.alloc (.cells #[.bool false,.pointer none] 111)).drewN m) left nd ns er nst):=HP.out.nil (((Kp.refl Nil w).alloc _).drewN m);unfold nodePtr;go_wp2_with fail
 refine (valid_c D A C bp _ left nd er ns nst g (j+1) (by exact hP1.out) HG.out hj HK.out).mono ?_;rintro e w1 ⟨rfl,rfl⟩;rw [qqt (show j+1 ≠ 0 by omega)];go_wp2_with fail
 refine (next_c D A C bp _ left nd er ns nst g j n2 (by exact hP1.out) HG.out HN2.out hx hN).mono ?_;rintro e w2 ⟨rfl,m2,rfl⟩;obtain ⟨a,ha⟩:=IsP.nodePtr g n2.next;rw [ha];have HA:=qqh ha;clear ha;go_wp2_with fail
 refine bodyPost_ret (v:=.agg #[.bool false,.pointer a]) (by simp [results,Tryz.results61,go_sem]) rfl ?_;refine ⟨congrArg (fun x => Ending.returned (.agg #[.bool false,x])) HA.out.symm,?_⟩;refine Kp.setCell (p:=⟨w.heap.size,1,none⟩) (Kp.setCell (p:=⟨w.heap.size,0,none⟩) ?_ (.inr (qqr _)) _) (.inr (qqr _)) _
 first | exact (((Kp.refl Nil w).alloc _).drewN m).drewN m2 | exact ((Kp.refl Nil w).alloc _).drewN (m+m2)
structure GoodN (ns:List Nd):Prop where
 len:ns.length<=100000000
 kind:∀ n ∈ ns,n.kind ≠ 0
 next:∀ n ∈ ns,n.next<=ns.length
 child:∀ n ∈ ns,n.child<=ns.length
def SegN (ns:List Nd) (base:Nat) (ms:List Nd):Prop:=∀ i n,ms[i]?=some n->ns[base+i]?=some n
theorem SegN.left {ns ms ks:List Nd} {base:Nat} (h:SegN ns base (ms++ks)):SegN ns base ms:=fun i n hi => h i n (by rw [List.getElem?_append_left (List.getElem?_eq_some_iff.1 hi).1];exact hi)
theorem SegN.right {ns ms ks:List Nd} {base:Nat} (h:SegN ns base (ms++ks)):SegN ns (base+ms.length) ks:=fun i n hi => by
 have:=h (ms.length+i) n (by rw [List.getElem?_append_right (by omega),Nat.add_sub_cancel_left];exact hi);rw [Nat.add_assoc];exact this
theorem SegN.head {ns ms:List Nd} {m:Nd} {base:Nat} (h:SegN ns base (m :: ms)):ns[base]?=some m:=h 0 m rfl
theorem SegN.tail {ns ms:List Nd} {m:Nd} {base:Nat} (h:SegN ns base (m :: ms)):SegN ns (base+1) ms:=fun i n hi => by
 have:=h (i+1) n (by simpa using hi);rw [show base+1+i=base+(i+1) by omega];exact this
def KC (ns:List Nd) (h:Nat):List (List UInt8)->Prop
 | [] => h=0
 | l :: ls => ∃ i n,h=i+1/\ns[i]?=some n/\n.txt=l/\KC ns n.next ls
theorem KC.of_seg:∀ (ks:List (List UInt8)) (ns:List Nd) (base:Nat),SegN ns base (keyNds base ks)->KC ns (if ks.isEmpty then 0 else base+1) ks
 | [],_,_,_ => rfl
 | [l],ns,base,h => ⟨base,_,rfl,SegN.head h,rfl,rfl⟩
 | l :: m :: ls,ns,base,h => ⟨base,_,rfl,SegN.head h,rfl,KC.of_seg (m :: ls) ns (base+1) (SegN.tail h)⟩
theorem conv_rds {w:World} {A:Option Addr} {bp:Nat} {nd v:Value} {l:List UInt8} (h:RdS w A bp nd v l):(convert 22 9 v).run Tryz.prog w=.ok (.string ⟨l.toArray⟩) w:=by
 obtain ⟨a,c,rfl,hl⟩:=h;by_cases hne:l=[]
 ·subst hne;cases a with
  | none => rw [run_convert_bytes_nil w 22 5 Tryz.underlying22 Tryz.underlying5 _ _ 9 Tryz.underlying9];rfl
  | some a => exact run_convert_bytes_back (P:=Tryz.prog) w 22 9 5 a c [] Tryz.underlying22 Tryz.underlying5 Tryz.underlying9 (fun j hj => by simp at hj)
 ·obtain ⟨b,o,rfl,_,_,h3⟩:=hl hne;exact run_convert_bytes_back (P:=Tryz.prog) w 22 9 5 ⟨b,o,none⟩ c l Tryz.underlying22 Tryz.underlying5 Tryz.underlying9 (fun j hj => by
   rw [show (⟨b,o,none⟩:Addr).add j=⟨b,o+j,none⟩ by unfold Addr.add;simp];exact h3 j hj)
theorem noU8_it (s:Bool) (g h:Nat):NoU8 [.bool s,nodePtr g h]:=by
 intro v hv z;obtain ⟨a,ha⟩:=IsP.nodePtr g h;rw [ha] at hv;simp at hv;rcases hv with rfl | rfl <;> (intro e;cases e)
structure RC (D:Doc) (A:Option Addr) (C bp:Nat) (left nd er:Value) (ns:List Nd) (nst g:Nat) (w:World):Prop where
 pn:PN D A C bp w left nd ns er nst
 hg:nd.ownBlock=some g
 gd:GoodN ns
section
variable {D:Doc} {A:Option Addr} {C bp:Nat} {left nd er:Value} {ns:List Nd} {nst g:Nat} {w w':World}
theorem RC.nil (h:RC D A C bp left nd er ns nst g w) (k:Kp Nil w w'):RC D A C bp left nd er ns nst g w':=⟨h.pn.nil k,h.hg,h.gd⟩
theorem RC.put {b i:Nat} {xs:List Value} {t:TypeId} (h:RC D A C bp left nd er ns nst g w) (hB:Blk w b xs t) (hx:NoU8 xs) (h1:b ≠ bp) (h2:b ≠ g) (h3:∀ a,A=some a->a.block ≠ b) (u:Value):RC D A C bp left nd er ns nst g (w.setCell ⟨b,i,none⟩ u) :=
 ⟨h.pn.put hB hx h1 (by rw [h.hg];exact fun e => h2 (by injection e with e;exact e.symm)) h3 u,h.hg,h.gd⟩
theorem RC.apart {w0:World} (h:RC D A C bp left nd er ns nst g w0) {b:Nat} (hb:w0.heap.size<=b):b ≠ bp/\b ≠ g/\∀ a,A=some a->a.block ≠ b:=by
 have h1:=h.pn.ltB;have h2:=h.pn.rowlt g h.hg;exact ⟨by omega,by omega,fun a ha e => by have:=(h.pn.apartA a ha).2.2;omega⟩
end
theorem itn0 (D:Doc) (A:Option Addr) (C bp b:Nat) (w w0:World) (left nd er:Value) (ns:List Nd) (nst g h:Nat) (hR:RC D A C bp left nd er ns nst g w) (hR0:RC D A C bp left nd er ns nst g w0) (hb:w0.heap.size<=b) (hh:h<=ns.length) (hB:Blk w b [.bool false,nodePtr g h] 111) :
  Calls Tryz.prog 62 #[.pointer (some ⟨b,0,none⟩)] w fun e w' => e=.returned (.bool (decide (h ≠ 0)))/\RC D A C bp left nd er ns nst g w'/\Blk w' b [.bool true,nodePtr g h] 111/\Kp (Only b) w w':=by
 have ha:=hR0.apart hb;have hR2:=hR.put (i:=0) hB (noU8_it _ _ _) ha.1 ha.2.1 ha.2.2 (.bool true);refine (inext0_c D A C bp b w left nd er ns nst g h hR.pn hR2.pn hR.hg hh hR.gd.kind hB).mono ?_;rintro e w' ⟨rfl,rfl⟩;exact ⟨rfl,hR2,hB.putE 0 _ rfl,(Kp.refl _ _).putOnly _⟩
theorem itn1 (D:Doc) (A:Option Addr) (C bp b:Nat) (w w0:World) (left nd er:Value) (ns:List Nd) (nst g i:Nat) (n:Nd) (hR:RC D A C bp left nd er ns nst g w) (hR0:RC D A C bp left nd er ns nst g w0) (hb:w0.heap.size<=b) (hn:ns[i]?=some n) (hB:Blk w b [.bool true,nodePtr g (i+1)] 111) :
  Calls Tryz.prog 62 #[.pointer (some ⟨b,0,none⟩)] w fun e w' => e=.returned (.bool (decide (n.next ≠ 0)))/\RC D A C bp left nd er ns nst g w'/\Blk w' b [.bool true,nodePtr g n.next] 111/\Kp (Only b) w w':=by
 have ha:=hR0.apart hb;have hgl:=hR.gd.len;have hR2:∀ m,RC D A C bp left nd er ns nst g ((w.drewN m).setCell ⟨b,1,none⟩ (nodePtr g n.next)):=fun m =>
  (hR.nil ((Kp.refl Nil w).drewN m)).put (w:=w.drewN m) hB (noU8_it _ _ _) ha.1 ha.2.1 ha.2.2 _
 have hm:n ∈ ns:=List.mem_of_getElem? hn;refine (inext1_c D A C bp b w left nd er ns nst g i n hR.pn (fun m => (hR2 m).pn) hR.hg hn (hR.gd.next n hm) (by omega) hR.gd.kind hB).mono ?_;rintro e w' ⟨rfl,m,rfl⟩;exact ⟨rfl,hR2 m,(Blk.drewN hB m).putE 1 _ rfl,((Kp.refl (Only b) w).drewN m).putOnly _⟩
def ItAt (ns:List Nd) (g:Nat) (P:Nat->Prop) (cs:List Value):Prop :=
 (∃ h,cs=[.bool false,nodePtr g h]/\h<=ns.length/\P h)\/(∃ i n,cs=[.bool true,nodePtr g (i+1)]/\ns[i]?=some n/\P n.next)
theorem itn (D:Doc) (A:Option Addr) (C bp b:Nat) (w w0:World) (left nd er:Value) (ns:List Nd) (nst g:Nat) (P:Nat->Prop) (cs:List Value) (hR:RC D A C bp left nd er ns nst g w) (hR0:RC D A C bp left nd er ns nst g w0) (hb:w0.heap.size<=b) (hi:ItAt ns g P cs) (hB:Blk w b cs 111) :
  Calls Tryz.prog 62 #[.pointer (some ⟨b,0,none⟩)] w fun e w' => ∃ h,P h/\h<=ns.length/\e=.returned (.bool (decide (h ≠ 0)))/\RC D A C bp left nd er ns nst g w'/\Blk w' b [.bool true,nodePtr g h] 111/\Kp (Only b) w w':=by
 rcases hi with ⟨h,rfl,hh,hp⟩ | ⟨i,n,rfl,hn,hp⟩
 ·refine (itn0 D A C bp b w w0 left nd er ns nst g h hR hR0 hb hh hB).mono ?_;rintro e w' ⟨h1,h2,h3,h4⟩;exact ⟨h,hp,hh,h1,h2,h3,h4⟩
 ·refine (itn1 D A C bp b w w0 left nd er ns nst g i n hR hR0 hb hn hB).mono ?_;rintro e w' ⟨h1,h2,h3,h4⟩;exact ⟨n.next,hp,hR.gd.next n (List.mem_of_getElem? hn),h1,h2,h3,h4⟩
theorem fresh_ne {w:World} {v v':Value} {b:Nat} (h:Fresh w v v') (h1:v.ownBlock ≠ some b) (h2:b<w.heap.size):v'.ownBlock ≠ some b:=by
 rcases h with h | h
 ·rw [h];exact h1
 ·intro e;have:=h b e;omega
theorem keys31_c (D:Doc) (A:Option Addr) (C bp:Nat) (w:World) (left nd er:Value) (ns:List Nd) (nst g i h:Nat) (ks:List (List UInt8)) (hR:RC D A C bp left nd er ns nst g w)
  (hkey:Calls Tryz.prog 61 #[.pointer (some ⟨g,7 * i,none⟩)] w fun e w' => e=.returned (.agg #[.bool false,nodePtr g h])/\Kp Nil w w') (hh:h<=ns.length) (hk:KC ns h ks) (hl:ks.length<=100000000) :
  Calls Tryz.prog 31 #[.pointer (some ⟨g,7 * i,none⟩)] w fun e w' => ∃ v,e=.returned v/\OwnS w' w.heap.size v ks/\Kp Nil w w':=by
 have HR:=qqh hR;have HKEY:=qqh hkey;have HKC:=qqh hk;clear hR hkey hk;go_enter Tryz.func31,Tryz.ntmps31;go_wp2_with fail
 refine (HKEY.out).mono ?_;rintro e w1 ⟨rfl,hk1⟩;have HK1:=qqh hk1;have hs1:=hk1.size;obtain ⟨ia,hia⟩:=IsP.nodePtr g h;rw [hia];have HIA:=qqh hia;clear hk1 hia;go_wp2_with fail
 obtain ⟨b,hb⟩:∃ b,w1.heap.size=b:=⟨_,rfl⟩;have hbw:w.heap.size<=b:=by omega
 have hB0:Hid (Blk (w1.alloc (.cells #[.bool false,.pointer ia] 111)) b [.bool false,nodePtr g h] 111):=by
  show Blk _ _ _ _;rw [HIA.out,<- hb];exact Blk.new w1 [.bool false,.pointer ia] 111
 have hK0:Hid (Kp Nil w (w1.alloc (.cells #[.bool false,.pointer ia] 111))):=HK1.out.alloc _;rw [hb];have HBE:=qqh hb;clear hb
 go_loopw [3] (fun v wr => ∃ (acc rest:List (List UInt8)) (cs:List Value),Hid (OwnS wr w.heap.size v acc)/\Hid (acc++rest=ks)/\Hid (Blk wr b cs 111)/\Hid (ItAt ns g (fun h => KC ns h rest) cs)/\Hid (Kp Nil w wr)/\Hid (v.ownBlock ≠ some b)) (fun v _ => ks.length - slen v)
 case atStart => exact ⟨[],ks,_,OwnS.nil _ _,rfl,hB0,.inl ⟨h,rfl,hh,HKC.out⟩,hK0,fun e => by cases e⟩
 case round =>
  obtain ⟨acc,rest,cs,hO,hE,hB,hI,hK,hN⟩:=hrel;obtain ⟨sa,sl,sc,rfl⟩:=IsSl.own hO.out;have hRr:=qqh (HR.out.nil hK.out);obtain rfl:sl=acc.length:=own_len hO.out;have hel:acc.length+rest.length=ks.length:=by rw [<- hE.out,qqa]
  go_wp2_with fail
  refine (itn D A C bp b _ w left nd er ns nst g (fun h => KC ns h rest) cs (by exact hRr.out) HR.out hbw hI.out (by exact hB.out)).mono ?_;rintro e w2 ⟨h2,hkc,hh2,rfl,hR2,hB2,hk2⟩;have hK2:=qqh (hK.out.then hk2 (fun x hx => .inr (by have hx:x=b:=hx;omega)));have hO2:=qqh (own_kp hO.out hk2 (fun x hx e => hN.out (by have e:x=b:=e;rw [hx,e])));have HB2:=qqh hB2;have HR2:=qqh hR2;have hs2:=hK2.out.size;have hbl:=hB2.lt;clear hR2 hB2 hk2;cases rest with
  | nil =>
   have hkc:h2=0:=hkc;subst hkc;rw [qqf (by omega)];go_wp2_with fail
   go_ret;have:=hE.out;rw [List.append_nil] at this;subst this;exact ⟨.slice sa acc.length sc,rfl,hO2.out,hK2.out⟩
  | cons l ls =>
   obtain ⟨i2,n2,rfl,hn2,htx,hkc2⟩:=hkc;rw [qqt (by omega)];obtain ⟨d,c,x0,x3,x4,x5,x6,x7,x8,x9⟩:=HR2.out.pn.node HR2.out.hg hn2;rw [htx] at x7;obtain ⟨da,dc,rfl,x71⟩:=x7;have hcv:=conv_rds (w:=w2) (A:=A) (bp:=bp) (nd:=nd) (v:=.slice da l.length dc) (l:=l) ⟨da,dc,rfl,x71⟩;obtain ⟨S,hS⟩:∃ S:ByteArray,(⟨l.toArray⟩:ByteArray)=S:=⟨_,rfl⟩;rw [hS] at hcv;have HS:=qqh hS;have HN2:=qqh hn2;have HKC2:=qqh hkc2;clear x0 x4 x5 x6 x8 x9 x71 hS hn2 htx hkc2;have hel2:acc.length+(ls.length+1)=ks.length:=hel;go_wp2_with (first
    | (go_at_call 63;refine (inode_c b true (nodePtr g (i2+1)) _ (by exact HB2.out)).mono ?_;rintro e w3 ⟨rfl,hw3⟩;obtain rfl:=hw3.symm;unfold nodePtr)
    | (at_builtin;refine wpList_appF rfl T40 _ _ rfl w.heap.size _ acc.length (acc.map sv) rfl (by exact own_alloc hO2.out _) w2.heap.size 1 _ rfl [.string S] rfl (fun j u hu => by change (w2.alloc _).cell? ⟨w2.heap.size,j,none⟩=some u;rw [cell_newI rfl];simpa using hu) (by intro u hu;simp at hu;subst hu;rfl) (by omega) (by omega) (by simp;omega) ?_))
   intro v5 w5 hown5 hg5 hfr5;have hE2:Hid ((acc++[l])++ls=ks):=(by show _=_;rw [<- hE.out];simp);have hO5:Hid (OwnS w5 w.heap.size v5 (acc++[l])):=by
    show World.ownsRow _ _ _ _ _ _ _;rw [qqa,List.map_append];have:[l].map sv=[.string S]:=(by rw [<- HS.out];rfl);rw [this];exact hown5
   have hal:Kp Nil w (w2.alloc (.cells #[.string S] 9)):=hK2.out.alloc _;have hK5:Hid (Kp Nil w w5):=Kp.grownL hal (own_alloc hO2.out _) (qqr _) hg5;have hB5:Hid (Blk w5 b [.bool true,nodePtr g (i2+1)] 111):=by
    have h1:=HB2.out.alloc (.cells #[.string S] 9);exact h1.kp (Kp.ofGrown hg5) (fun e => hN.out e.symm)
   have hN5:Hid (v5.ownBlock ≠ some b):=fresh_ne hfr5 hN.out (by simp;omega);obtain ⟨va,vl,vc,rfl⟩:=IsSl.own hown5;obtain rfl:vl=acc.length+1:=own_len hown5;clear hown5 hg5 hfr5 hal;go_wp2_with fail
   go_roundw
   case rel => exact ⟨acc++[l],ls,_,hO5,hE2,hB5,.inr ⟨i2,n2,rfl,HN2.out,HKC2.out⟩,hK5,hN5⟩
   case measure => simp [slen];omega
theorem info80:(Tryz.prog.info? 80).map (fun i => (i.zero,i.size,i.bytes))=some (some (.agg #[.int .i64 0,.string ⟨#[]⟩,.slice none 0 0,.slice none 0 0]),4,72):=by kernel_rfl
theorem T78:ElemT 78 80 4 72:=by
 obtain ⟨i,hi,h0,h1,h2⟩:=info_parts info80;exact ⟨Tryz.underlying78,⟨i,_,hi,h0,h1,h2,rfl⟩,by decide⟩
theorem info83:(Tryz.prog.info? 83).map (fun i => (i.zero,i.size,i.bytes))=some (some (.agg #[.int .i64 0,.slice none 0 0,.int .i64 0,.string ⟨#[]⟩,.slice none 0 0,.slice none 0 0]),6,104):=by kernel_rfl
theorem T33:ElemT 33 83 6 104:=by
 obtain ⟨i,hi,h0,h1,h2⟩:=info_parts info83;exact ⟨Tryz.underlying33,⟨i,_,hi,h0,h1,h2,rfl⟩,by decide⟩
mutual
def RpT (w:World) (base:Nat) (S:Nat->Prop):Tree->List Value->Prop
 | .mk k l items keys,cs => ∃ vi vk xs,cs=[.int .i64 (k:Nat),sv l,vi,vk]/\w.ownsRow base 80 4 vi items.length xs/\(∀ g,vi.ownBlock=some g->S g)/\RpL w base S items xs
   /\ OwnS w base vk keys/\(∀ g,vk.ownBlock=some g->S g)
def RpL (w:World) (base:Nat) (S:Nat->Prop):List Tree->List Value->Prop
 | [],xs => xs=[]
 | t :: ts,xs => ∃ a b,xs=a++b/\RpT w base S t a/\RpL w base S ts b
end
theorem RpT.iff {w:World} {base:Nat} {S:Nat->Prop} {k:Nat} {l:List UInt8} {items:List Tree} {keys:List (List UInt8)} {cs:List Value} :
  RpT w base S (.mk k l items keys) cs ↔ ∃ vi vk xs,cs=[.int .i64 (k:Nat),sv l,vi,vk]/\w.ownsRow base 80 4 vi items.length xs/\(∀ g,vi.ownBlock=some g->S g)/\RpL w base S items xs
   /\ OwnS w base vk keys/\(∀ g,vk.ownBlock=some g->S g):=by rw [RpT]
theorem RpL.nil {w:World} {base:Nat} {S:Nat->Prop} {xs:List Value}:RpL w base S [] xs ↔ xs=[]:=by rw [RpL]
theorem RpL.cons {w:World} {base:Nat} {S:Nat->Prop} {t:Tree} {ts:List Tree} {xs:List Value}:RpL w base S (t :: ts) xs ↔ ∃ a b,xs=a++b/\RpT w base S t a/\RpL w base S ts b:=by rw [RpL]
mutual
theorem RpT.leave {w w':World} {base base':Nat} {S S':Nat->Prop} (hS:∀ b,S b->base<=b->S' b/\(b<w.heap.size->w'.heap[b]?=w.heap[b]?)) (hb:base'<=base):∀ (t:Tree) (cs:List Value),RpT w base S t cs->RpT w' base' S' t cs
 | .mk k l items keys,cs,h => by
  rw [RpT] at h ⊢;obtain ⟨vi,vk,xs,e,h1,h2,h3,h4,h5⟩:=h;refine ⟨vi,vk,xs,e,?_,fun g hg => (hS g (h2 g hg) (h1.lt g hg).1).1,RpL.leave hS hb items xs h3,?_,fun g hg => (hS g (h5 g hg) (World.ownsRow.lt h4 g hg).1).1⟩
  ·refine own_mono (base:=base) ⟨h1.1,?_⟩ hb;rcases h1.2 with hn | ⟨g,cap,cur,rfl,hb',hg,r⟩
   ·exact .inl hn
   ·exact .inr ⟨g,cap,cur,rfl,hb',by rw [(hS g (h2 g rfl) hb').2 (Array.getElem?_eq_some_iff.1 hg).1];exact hg,r⟩
  ·refine own_mono (base:=base) ⟨h4.1,?_⟩ hb;rcases h4.2 with hn | ⟨g,cap,cur,rfl,hb',hg,r⟩
   ·exact .inl hn
   ·exact .inr ⟨g,cap,cur,rfl,hb',by rw [(hS g (h5 g rfl) hb').2 (Array.getElem?_eq_some_iff.1 hg).1];exact hg,r⟩
theorem RpL.leave {w w':World} {base base':Nat} {S S':Nat->Prop} (hS:∀ b,S b->base<=b->S' b/\(b<w.heap.size->w'.heap[b]?=w.heap[b]?)) (hb:base'<=base):∀ (ts:List Tree) (xs:List Value),RpL w base S ts xs->RpL w' base' S' ts xs
 | [],xs,h => by rw [RpL] at h ⊢;exact h
 | t :: ts,xs,h => by
  rw [RpL] at h ⊢;obtain ⟨a,b,e,h1,h2⟩:=h;exact ⟨a,b,e,RpT.leave hS hb t a h1,RpL.leave hS hb ts b h2⟩
end
theorem RpL.append {w:World} {base:Nat} {S:Nat->Prop} {ts us:List Tree} {xs ys:List Value} (h:RpL w base S ts xs) (h':RpL w base S us ys):RpL w base S (ts++us) (xs++ys):=by
 induction ts generalizing xs with
 | nil => rw [RpL.nil] at h;subst h;exact h'
 | cons t ts ih =>
  rw [RpL.cons] at h;obtain ⟨a,b,rfl,h1,h2⟩:=h;rw [List.cons_append,RpL.cons];exact ⟨a,b++ys,by rw [List.append_assoc],h1,ih h2⟩
theorem RpT.one {w:World} {base:Nat} {S:Nat->Prop} {t:Tree} {cs:List Value} (h:RpT w base S t cs):RpL w base S [t] cs:=by
 rw [RpL.cons];exact ⟨cs,[],by simp,h,RpL.nil.2 rfl⟩
theorem RpT.length {w:World} {base:Nat} {S:Nat->Prop} {t:Tree} {cs:List Value} (h:RpT w base S t cs):cs.length=4:=by
 cases t with
 | mk k l items keys => rw [RpT.iff] at h;obtain ⟨vi,vk,xs,rfl,_⟩:=h;rfl
theorem RpL.length {w:World} {base:Nat} {S:Nat->Prop} {ts:List Tree} {xs:List Value} (h:RpL w base S ts xs):xs.length=ts.length * 4:=by
 induction ts generalizing xs with
 | nil => rw [RpL.nil] at h;subst h;rfl
 | cons t ts ih =>
  rw [RpL.cons] at h;obtain ⟨a,b,rfl,h1,h2⟩:=h;rw [qqa,h1.length,ih h2,List.length_cons];omega
theorem RpT.kp {w w':World} {base:Nat} {S K:Nat->Prop} {t:Tree} {cs:List Value} (h:RpT w base S t cs) (k:Kp K w w') (hS:∀ b,S b->¬ K b):RpT w' base S t cs :=
 RpT.leave (fun b hb _ => ⟨hb,fun hl => k.block b hl (hS b hb)⟩) (qqr _) t cs h
theorem RpL.kp {w w':World} {base:Nat} {S K:Nat->Prop} {ts:List Tree} {xs:List Value} (h:RpL w base S ts xs) (k:Kp K w w') (hS:∀ b,S b->¬ K b):RpL w' base S ts xs :=
 RpL.leave (fun b hb _ => ⟨hb,fun hl => k.block b hl (hS b hb)⟩) (qqr _) ts xs h
theorem RpT.mono {w:World} {base base':Nat} {S S':Nat->Prop} {t:Tree} {cs:List Value} (h:RpT w base S t cs) (hb:base'<=base) (hS:∀ b,S b->base<=b->S' b):RpT w base' S' t cs :=
 RpT.leave (fun b h1 h2 => ⟨hS b h1 h2,fun _ => rfl⟩) hb t cs h
theorem RpL.mono {w:World} {base base':Nat} {S S':Nat->Prop} {ts:List Tree} {xs:List Value} (h:RpL w base S ts xs) (hb:base'<=base) (hS:∀ b,S b->base<=b->S' b):RpL w base' S' ts xs :=
 RpL.leave (fun b h1 h2 => ⟨hS b h1 h2,fun _ => rfl⟩) hb ts xs h
mutual
theorem RpT.there {w:World} {base:Nat} {S:Nat->Prop}:∀ (t:Tree) (cs:List Value),RpT w base S t cs->RpT w base (fun b => S b/\b<w.heap.size) t cs
 | .mk k l items keys,cs,h => by
  rw [RpT] at h ⊢;obtain ⟨vi,vk,xs,e,h1,h2,h3,h4,h5⟩:=h;exact ⟨vi,vk,xs,e,h1,fun g hg => ⟨h2 g hg,(h1.lt g hg).2⟩,RpL.there items xs h3,h4,fun g hg => ⟨h5 g hg,(World.ownsRow.lt h4 g hg).2⟩⟩
theorem RpL.there {w:World} {base:Nat} {S:Nat->Prop}:∀ (ts:List Tree) (xs:List Value),RpL w base S ts xs->RpL w base (fun b => S b/\b<w.heap.size) ts xs
 | [],xs,h => by rw [RpL] at h ⊢;exact h
 | t :: ts,xs,h => by
  rw [RpL] at h ⊢;obtain ⟨a,b,e,h1,h2⟩:=h;exact ⟨a,b,e,RpT.there t a h1,RpL.there ts b h2⟩
end
mutual
def Wf:Tree->Prop
 | .mk K l items _ => K<=9/\(K=8->l=[]/\WfL items)/\(K=9->l=[]/\WfB items)/\(K ≠ 8->K ≠ 9->items=[])
def WfL:List Tree->Prop
 | [] => True
 | t :: ts => Wf t/\t.keys=[]/\WfL ts
def WfB:List Tree->Prop
 | [] => True
 | t :: ts => Wf t/\t.keys ≠ []/\WfB ts
end
theorem Wf.iff {K:Nat} {l:List UInt8} {items:List Tree} {ks:List (List UInt8)}:Wf (.mk K l items ks) ↔ K<=9/\(K=8->l=[]/\WfL items)/\(K=9->l=[]/\WfB items)/\(K ≠ 8->K ≠ 9->items=[]):=by rw [Wf]
theorem WfL.cons {t:Tree} {ts:List Tree}:WfL (t :: ts) ↔ Wf t/\t.keys=[]/\WfL ts:=by rw [WfL]
theorem WfB.cons {t:Tree} {ts:List Tree}:WfB (t :: ts) ↔ Wf t/\t.keys ≠ []/\WfB ts:=by rw [WfB]
theorem Wf.under {t:Tree} (ks:List (List UInt8)) (h:Wf t):Wf (t.under ks):=by
 cases t with
 | mk K l items k => rw [Wf.iff] at h;show Wf (.mk K l items ks);rw [Wf.iff];exact h
theorem under_keys {t:Tree} (h:t.keys=[]):t.under []=t:=by
 cases t with
 | mk K l items k => have h:k=[]:=h;subst h;rfl
def CC (g:Nat->Nat->Tree->List Nd) (ns:List Nd) (h:Nat):List Tree->Prop
 | [] => h=0
 | t :: ts => ∃ i nx,h=i+1/\SegN ns i (g i nx t)/\CC g ns nx ts
theorem CC.of_seg {g:Nat->Nat->Tree->List Nd} {s:Tree->Nat} (hc:Chunk g s):∀ (ts:List Tree) (ns:List Nd) (base:Nat),SegN ns base (cNds g s base ts)->CC g ns (if ts.isEmpty then 0 else base+1) ts
 | [],_,_,_ => rfl
 | [t],ns,base,h => ⟨base,0,rfl,SegN.left h,rfl⟩
 | t :: u :: ts,ns,base,h => by
  refine ⟨base,base+s t+1,rfl,SegN.left h,?_⟩;have h2:=SegN.right h;rw [hc.len] at h2;exact CC.of_seg hc (u :: ts) ns (base+s t) h2
theorem tNds_head (b x:Nat) (t:Tree):∃ n ms,tNds b x t=n :: ms/\n.next=x/\n.kind ≠ 1:=by
 cases t with
 | mk K l items ks =>
  rw [tNds_mk];split
  ·exact ⟨_,_,rfl,rfl,by simp⟩
  ·split
   ·exact ⟨_,_,rfl,rfl,by simp⟩
   ·refine ⟨_,_,rfl,rfl,?_⟩;show kmap K ≠ 1;unfold kmap
    (repeat' split) <;> omega
mutual
theorem tNds_ok:∀ (t:Tree) (b x B:Nat),b+tSize t<=B->x<=B->∀ n ∈ tNds b x t,n.kind ≠ 0/\n.next<=B/\n.child<=B
 | .mk K l items ks,b,x,B,h,hx,n,hn => by
  rw [tSize] at h;rw [tNds] at hn;by_cases h8:K=8
  ·rw [if_pos h8] at hn h;rcases List.mem_cons.1 hn with rfl | hn
   ·refine ⟨by simp,hx,?_⟩;show (if items.isEmpty then 0 else b+2)<=B;split
    ·omega
    ·rename_i hne;cases items with
     | nil => simp at hne
     | cons t ts => rw [lSize] at h;have:=tSize_pos t;omega
   ·exact lNds_ok items (b+1) B (by omega) n hn
  rw [if_neg h8] at hn h;by_cases h9:K=9
  ·rw [if_pos h9] at hn h;rcases List.mem_cons.1 hn with rfl | hn
   ·refine ⟨by simp,hx,?_⟩;show (if items.isEmpty then 0 else b+2)<=B;split
    ·omega
    ·rename_i hne;cases items with
     | nil => simp at hne
     | cons t ts => rw [bSize] at h;omega
   ·exact bNds_ok items (b+1) B (by omega) n hn
  ·rw [if_neg h9] at hn h;have hn:=List.mem_singleton.1 hn;subst hn;refine ⟨?_,hx,Nat.zero_le _⟩;show kmap K ≠ 0;unfold kmap
   (repeat' split) <;> omega
theorem lNds_ok:∀ (ts:List Tree) (b B:Nat),b+lSize ts<=B->∀ n ∈ lNds b ts,n.kind ≠ 0/\n.next<=B/\n.child<=B
 | [],b,B,h,n,hn => by rw [lNds] at hn;cases hn
 | t :: ts,b,B,h,n,hn => by
  rw [lSize] at h;rw [lNds] at hn;rcases List.mem_append.1 hn with hn | hn
  ·refine tNds_ok t b _ B (by omega) ?_ n hn;split
   ·omega
   ·rename_i hne;cases ts with
    | nil => simp at hne
    | cons u us => rw [lSize] at h;have:=tSize_pos u;omega
  ·exact lNds_ok ts (b+tSize t) B (by omega) n hn
theorem bNds_ok:∀ (ts:List Tree) (b B:Nat),b+bSize ts<=B->∀ n ∈ bNds b ts,n.kind ≠ 0/\n.next<=B/\n.child<=B
 | [],b,B,h,n,hn => by rw [bNds] at hn;cases hn
 | t :: ts,b,B,h,n,hn => by
  rw [bSize] at h;rw [bNds] at hn;have hpos:=tSize_pos t;rcases List.mem_append.1 hn with hn | hn
  ·rcases List.mem_cons.1 hn with rfl | hn
   ·refine ⟨by simp,?_,?_⟩
    ·show (if ts.isEmpty then 0 else b+(1+t.keys.length+tSize t)+1)<=B;split
     ·omega
     ·rename_i hne;cases ts with
      | nil => simp at hne
      | cons u us => rw [bSize] at h;omega
    ·show b+t.keys.length+2<=B;omega
   ·rcases List.mem_append.1 hn with hn | hn
    ·exact keyNds_ok t.keys (b+1) B (by omega) n hn
    ·exact tNds_ok t (b+1+t.keys.length) (b+2) B (by omega) (by omega) n hn
  ·exact bNds_ok ts (b+(1+t.keys.length+tSize t)) B (by omega) n hn
theorem keyNds_ok:∀ (ks:List (List UInt8)) (b B:Nat),b+ks.length<=B->∀ n ∈ keyNds b ks,n.kind ≠ 0/\n.next<=B/\n.child<=B
 | [],_,_,_,n,hn => by cases hn
 | [l],b,B,h,n,hn => by
  have hn:=List.mem_singleton.1 hn;subst hn;exact ⟨by simp,Nat.zero_le _,Nat.zero_le _⟩
 | l :: m :: ls,b,B,h,n,hn => by
  rcases List.mem_cons.1 hn with rfl | hn
  ·refine ⟨by simp,?_,Nat.zero_le _⟩;show b+2<=B;simp at h;omega
  ·exact keyNds_ok (m :: ls) (b+1) B (by simp at h ⊢;omega) n hn
end
theorem numP_le (D:Doc) (k p:Nat) (x:Nat × List UInt8) (h:numP D k=.good x p):x.1<=7:=by
 by_cases hd:(0<=twoRun D k 0 4/\D.c (k+4)=45)\/(0<=twoRun D k 0 2/\D.c (k+2)=58)
 ·have h1:=numD_law D k hd;rw [h] at h1;obtain ⟨_,_,_,h2⟩:=h1;have h3:dtK D k (dtRun D k none) ≠ 7/\dtK D k (dtRun D k none) ≠ 6:=by
   unfold dtK;split
   ·omega
   ·split
    ·omega
    ·split <;> omega
  rw [h2] at h3;unfold kmap at h3;rcases qqg 7 x.1 with h7 | h7
  ·exfalso;rw [if_neg (by omega),if_neg (by omega),if_neg (by omega),if_neg (by omega),if_neg (by omega),if_neg (by omega),if_neg (by omega),if_neg (by omega)] at h3;split at h3 <;> omega
  ·exact h7
 ·unfold numP at h;rw [if_neg (by omega),if_neg (by omega)] at h;have hb:∀ b,baseN D k b=.good x p->x.1=1:=fun b hb => by unfold baseN at hb;split at hb;cases hb;injection hb with hb _;rw [<- hb]
  have he:∀ n K,expN D k n K=.good x p->x.1=2\/x.1=K:=fun n K hb => by
   unfold expN at hb;split at hb
   ·split at hb
    ·cases hb
    ·injection hb with hb _;rw [<- hb];exact .inl rfl
   ·injection hb with hb _;rw [<- hb];exact .inr rfl
  have:x.1=1\/x.1=2:=by
   split at h
   ·exact .inl (hb _ h)
   split at h
   ·exact .inl (hb _ h)
   split at h
   ·exact .inl (hb _ h)
   unfold infN at h;split at h
   ·injection h with h _;rw [<- h];exact .inr rfl
   unfold tenN at h;split at h
   ·cases h
   unfold fracN at h;split at h
   ·split at h
    ·cases h
    ·rcases he _ _ h with h | h
     ·exact .inr h
     ·exact .inr h
   ·rcases he _ _ h with h | h
    ·exact .inr h
    ·exact .inl h
  omega
theorem WfL.snoc:∀ {ts:List Tree} {t:Tree},WfL ts->Wf t->t.keys=[]->WfL (ts++[t])
 | [],t,_,h1,h2 => WfL.cons.2 ⟨h1,h2,by rw [WfL];trivial⟩
 | u :: us,t,h,h1,h2 => by rw [WfL.cons] at h;exact WfL.cons.2 ⟨h.1,h.2.1,WfL.snoc h.2.2 h1 h2⟩
theorem WfB.snoc:∀ {ts:List Tree} {t:Tree},WfB ts->Wf t->t.keys ≠ []->WfB (ts++[t])
 | [],t,_,h1,h2 => WfB.cons.2 ⟨h1,h2,by rw [WfB];trivial⟩
 | u :: us,t,h,h1,h2 => by rw [WfB.cons] at h;exact WfB.cons.2 ⟨h.1,h.2.1,WfB.snoc h.2.2 h1 h2⟩
theorem keyRun_ne (D:Doc):∀ (m k k':Nat) (acc l:List (List UInt8)),D.n - k=m->keyRun D k acc=.good l k'->l ≠ []:=by
 intro m
 induction m using Nat.strongRecOn with
 | _ m ih =>
  intro k k' acc l hm h;have h1:=wsEnd_ge D k;have hthen:∀ (j:Nat) (x:List UInt8),k<j->keyThen D j (acc++[x])=.good l k'->l ≠ []:=by
   intro j x hj ht;have h2:=wsEnd_ge D j;unfold keyThen at ht;by_cases hc:D.c (wsEnd D j)=46
   ·rw [if_pos hc] at ht;have:=Doc.in_of (D:=D) (k:=wsEnd D j) (by omega);exact ih (D.n - (wsEnd D j+1)) (by omega) (wsEnd D j+1) k' _ l rfl ht
   ·rw [if_neg hc] at ht;injection ht with e1 ht;rw [<- e1];simp
  by_cases hq:D.c (wsEnd D k)=34\/D.c (wsEnd D k)=39
  ·by_cases ht:three D (D.c (wsEnd D k)) (wsEnd D k)
   ·rw [key_three hq ht] at h;cases h
   ·rw [key_quote hq ht] at h;cases hx:txt D (D.c (wsEnd D k)) (wsEnd D k) with
    | good l' k2 =>
     rw [hx] at h;have h4:=txt_in D _ _ _ _ hx;exact hthen k2 _ (by omega) h
    | bad => rw [hx] at h;cases h
    | opn => rw [hx] at h;cases h
  ·cases hb:bareB (D.c (wsEnd D k)) with
   | true =>
    rw [key_bare hq hb] at h;have h5:=bareEnd_go hb;have h6:=(bareEnd_ge D (wsEnd D k+1)).1;exact hthen _ _ (by omega) h
   | false => rw [key_none hq hb] at h;cases h
def FWf (D:Doc) (f:Nat->R Tree):Prop:=∀ k v p,k<=D.n->f k=.good v p->Wf v/\v.keys=[]
theorem lst_wf {D:Doc} {f:Nat->R Tree} (hf:FOk D f) (hw:FWf D f):∀ (m k:Nat) (acc:List Tree) (t:Tree) (p:Nat),D.n - k=m->k<=D.n->WfL acc->lstRun D f k acc=.good t p->Wf t/\t.keys=[]:=by
 intro m
 induction m using Nat.strongRecOn with
 | _ m ih =>
  intro k acc t p hm hk ha h;have hend:∀ acc':List Tree,WfL acc'->Wf (.mk 8 [] acc' []):=fun acc' h' => Wf.iff.2 ⟨by omega,fun _ => ⟨rfl,h'⟩,fun h => by omega,fun h => absurd rfl h⟩
  cases hs:spc D k with
  | good u k1 =>
   have h1:=spc_rg D _ k k1 rfl hs;rw [lst_good hf hk hs] at h;split at h
   ·injection h with e1 e2;subst e1;exact ⟨hend acc ha,rfl⟩
   ·cases hv:f k1 with
    | good v k2 =>
     rw [hv] at h;have h2:=hf.rg k1 v k2 (by omega) hv;have h3:=hw k1 v k2 (by omega) hv;have h:lstAft D f k2 (acc++[v])=.good t p:=h;unfold lstAft at h;cases hs2:spc D k2 with
     | good u k3 =>
      have h4:=spc_rg D _ k2 k3 rfl hs2;rw [hs2] at h;dsimp only at h;split at h
      ·have h5:=Doc.in_of (D:=D) (k:=k3) (by omega);exact ih (D.n - (k3+1)) (by omega) (k3+1) _ t p rfl (by omega) (ha.snoc h3.1 h3.2) h
      ·split at h
       ·injection h with e1 e2;subst e1;exact ⟨hend _ (ha.snoc h3.1 h3.2),rfl⟩
       ·cases h
     | bad => rw [hs2] at h;cases h
     | opn => rw [hs2] at h;cases h
    | bad => rw [hv] at h;cases h
    | opn => rw [hv] at h;cases h
  | bad => rw [lst_deadI hs] at h;unfold R.dead at h;split at h <;> cases h
  | opn => exact absurd hs (spc_not_opnI D k)
theorem kvR2_wf {D:Doc} {f:Nat->R Tree} (hw:FWf D f) {k p:Nat} {x:List (List UInt8) × Tree} (h:kvR2 D f k=.good x p):Wf x.2/\x.2.keys=[]/\x.1 ≠ []:=by
 unfold kvR2 at h;cases hk:keyP D k with
 | good ks k1 =>
  rw [hk] at h;dsimp only at h;have h1:=keyP_ge D k k1 ks hk;split at h
  ·have h3:=Doc.in_of (D:=D) (k:=k1) (by omega);have h5:=wsEnd_le D (k1+1);cases hv:f (wsEnd D (k1+1)) with
   | good v k3 =>
    rw [hv] at h;have h6:=hw _ v k3 (by omega) hv;injection h with e1 e2;subst e1;exact ⟨h6.1,h6.2,keyRun_ne D _ k k1 [] ks rfl hk⟩
   | bad => rw [hv] at h;cases h
   | opn => rw [hv] at h;cases h
  ·cases h
 | bad => rw [hk] at h;cases h
 | opn => rw [hk] at h;cases h
theorem tab_wf {D:Doc} {f:Nat->R Tree} (hf:FOk D f) (hw:FWf D f):∀ (m k:Nat) (acc:List Tree) (t:Tree) (p:Nat),D.n - k=m->WfB acc->tabRun D f k acc=.good t p->Wf t/\t.keys=[]:=by
 intro m
 induction m using Nat.strongRecOn with
 | _ m ih =>
  intro k acc t p hm ha h;rw [tab_eq hf] at h;cases hx:kvR2 D f k with
  | good x k3 =>
   rw [hx] at h;have h1:=kvR2_sz hf hx;have h1w:=kvR2_wf hw hx;have h:tabAft D f k3 (acc++[x.2.under x.1])=.good t p:=h;unfold tabAft at h;split at h
   ·rename_i k5 hs;have h2:=tabNx_in h1.2.1 (.inl hs);exact ih (D.n - k5) (by omega) k5 _ t p rfl (ha.snoc (h1w.1.under _) (by rw [Tree.keys_under];exact h1w.2.2)) h
   ·rename_i k4 hs;injection h with e1 e2;subst e1;exact ⟨Wf.iff.2 ⟨by omega,fun h => by omega,fun _ => ⟨rfl,ha.snoc (h1w.1.under _) (by rw [Tree.keys_under];exact h1w.2.2)⟩,fun _ h => absurd rfl h⟩,rfl⟩
   ·cases h
   ·cases h
  | bad => rw [hx] at h;cases h
  | opn => rw [hx] at h;cases h
theorem fwf (D:Doc):∀ d,FWf D (valP D d):=by
 intro d
 induction d with
 | zero => intro k v p _ h;rw [valP] at h;cases h
 | succ d ih =>
  intro k v p hk h;have hone:∀ K l,K<=7->v=.mk K l [] []->Wf v/\v.keys=[]:=fun K l h8 e => by
   subst e;exact ⟨Wf.iff.2 ⟨by omega,fun h => by omega,fun h => by omega,fun _ _ => rfl⟩,rfl⟩
  rw [valP] at h;split at h
  ·cases hl:lin D (D.c k) k with
   | good l k' => rw [hl] at h;injection h with h _;exact hone 0 l (by omega) h.symm
   | bad => rw [hl] at h;cases h
   | opn => rw [hl] at h;cases h
  split at h
  ·cases hl:txt D (D.c k) k with
   | good l k' => rw [hl] at h;injection h with h _;exact hone 0 l (by omega) h.symm
   | bad => rw [hl] at h;cases h
   | opn => rw [hl] at h;cases h
  split at h
  ·injection h with h _;exact hone 3 _ (by omega) h.symm
  split at h
  ·injection h with h _;exact hone 3 _ (by omega) h.symm
  split at h
  ·rename_i h91;have:=Doc.in_of (D:=D) (k:=k) (by omega);exact lst_wf (fok D d) ih _ (k+1) [] v p rfl (by omega) (by rw [WfL];trivial) h
  split at h
  ·unfold tabP at h;split at h
   ·injection h with h _;subst h;exact ⟨Wf.iff.2 ⟨by omega,fun h => by omega,fun _ => ⟨rfl,by rw [WfB];trivial⟩,fun _ h => absurd rfl h⟩,rfl⟩
   ·split at h
    ·cases h
    ·exact tab_wf (fok D d) ih _ (wsEnd D (k+1)) [] v p rfl (by rw [WfB];trivial) h
  ·cases hl:numP D k with
   | good x k' =>
    rw [hl] at h;have hk:=numP_le D k k' x hl;injection h with h _;exact hone x.1 x.2 hk h.symm
   | bad => rw [hl] at h;cases h
   | opn => rw [hl] at h;cases h
theorem kmap_mem (K:Nat) (h:K<=9):(kmap K,(K:Int)) ∈ [(8,(0:Int)),(11,1),(10,2),(9,3),(15,4),(14,5),(12,6),(13,7),(6,8),(7,9)]:=by
 obtain rfl | rfl | rfl | rfl | rfl | rfl | rfl | rfl | rfl | rfl:K=0\/K=1\/K=2\/K=3\/K=4\/K=5\/K=6\/K=7\/K=8\/K=9:=by omega
 all_goals simp [kmap]
theorem RpT.leafV (w:World) (base:Nat) (S:Nat->Prop) (k:Nat) (l:List UInt8):RpT w base S (.mk k l [] []) [.int .i64 (k:Nat),sv l,.slice none 0 0,.slice none 0 0]:=by
 rw [RpT.iff];exact ⟨_,_,[],rfl,World.ownsRow_nil w base 80 4,fun g hg => by simp [Value.ownBlock] at hg,RpL.nil.2 rfl,OwnS.nil w base,fun g hg => by simp [Value.ownBlock] at hg⟩
def NodeC (D:Doc) (A:Option Addr) (C bp:Nat) (left nd er:Value) (ns:List Nd) (nst g:Nat) (t:Tree):Prop:=∀ (w:World) (i nx:Nat),RC D A C bp left nd er ns nst g w->SegN ns i (tNds i nx t)->Wf t ->
 Calls Tryz.prog 32 #[.pointer (some ⟨g,7 * i,none⟩)] w fun e w' => ∃ cs,e=.returned (.agg cs.toArray)/\RpT w' w.heap.size (fun _ => True) (t.under []) cs/\Kp Nil w w'
theorem node_leaf (D:Doc) (A:Option Addr) (C bp:Nat) (left nd er:Value) (ns:List Nd) (nst g K:Nat) (l:List UInt8) (ks:List (List UInt8)) (hK:K<=7):NodeC D A C bp left nd er ns nst g (.mk K l [] ks):=by
 intro w i nx hR hs _;rw [tNds_mk,if_neg (by omega),if_neg (by omega)] at hs;have hn:=SegN.head hs;have hgl:=(hR.pn.rowlt g hR.hg).2;obtain ⟨d,c,x0,x3,x4,x5,x6,x7,x8,x9⟩:=hR.pn.node hR.hg hn;dsimp only at x0 x7;have hal:∀ w',Kp Nil w w'->(convert 22 9 d).run Tryz.prog w'=.ok (.string ⟨l.toArray⟩) w':=fun w' k => conv_rds (x7.step k (fun _ _ _ _ x => x) (fun _ _ x => x) (Fresh.refl _ _))
 obtain ⟨da,dc,rfl,x71⟩:=x7;obtain ⟨S,hS⟩:∃ S:ByteArray,(⟨l.toArray⟩:ByteArray)=S:=⟨_,rfl⟩;rw [hS] at hal;have hkm:=kmap_mem K (by omega);obtain ⟨km,hkm'⟩:∃ km,kmap K=km:=⟨_,rfl⟩;rw [hkm'] at x0 hkm;have HS:=qqh hS;have HAL:=qqh hal;have hk8:decide ((K:Int)<8)=true:=qqt (by omega);have HKM:=qqh hkm;clear x4 x5 x6 x8 x9 x71 hS hn hs hR hal hkm hkm';go_enter Tryz.func32,Tryz.ntmps32;go_wp2_with fail
 refine (kind_c km (K:Int) HKM.out _).mono ?_;rintro e w1 ⟨rfl,rfl⟩;have hcv:=HAL.out ((w.alloc (.cells #[.int .i64 0,.string ⟨#[]⟩,.slice none 0 0,.slice none 0 0] 80)).alloc (.cells #[.int .i64 (K:Nat),.string ⟨#[]⟩,.slice none 0 0,.slice none 0 0] 80)) (((Kp.refl _ _).alloc _).alloc _);go_wp2_with fail
 refine bodyPost_ret (v:=.agg #[.int .i64 (K:Nat),.string S,.slice none 0 0,.slice none 0 0]) (by simp [results,Tryz.results32,go_sem]) rfl ?_;refine ⟨[.int .i64 (K:Nat),.string S,.slice none 0 0,.slice none 0 0],rfl,?_,?_⟩
 ·have h:∀ w',RpT w' w.heap.size (fun _ => True) (.mk K l [] []) [.int .i64 (K:Nat),sv l,.slice none 0 0,.slice none 0 0]:=fun w' => RpT.leafV w' _ _ K l
  unfold sv at h;rw [HS.out] at h;exact h _
 ·repeat (first | exact Kp.refl _ _ | refine Kp.setCell ?_ (.inr (by simp)) _ | refine Kp.alloc ?_ _)
theorem RpT.node {w:World} {base:Nat} {S:Nat->Prop} {t:Tree} {cs:List Value} (h:RpT w base S t cs):IsNode cs:=by
 cases t with
 | mk k l items keys => rw [RpT.iff] at h;obtain ⟨vi,vk,xs,rfl,h1,_,_,h2,_⟩:=h;exact ⟨_,_,_,_,rfl,IsSl.own h1,IsSl.own h2⟩
structure NW (w0:World) (K b4:Nat) (v:Value) (n:Nat) (xs:List Value) (acc:List Tree) (cs:List Value) (w:World):Prop where
 kp:Kp Nil w0 w
 res:Blk w w0.heap.size [.int .i64 0,.string ⟨#[]⟩,.slice none 0 0,.slice none 0 0] 80
 out:Blk w (w0.heap.size+1) [.int .i64 (K:Nat),.string ⟨#[]⟩,v,.slice none 0 0] 80
 own:w.ownsRow (w0.heap.size+2) 80 4 v n xs
 rep:RpL w (w0.heap.size+2) (fun b => v.ownBlock ≠ some b/\b ≠ b4) acc xs
 it:Blk w b4 cs 111
 nb:v.ownBlock ≠ some b4
 ge:w0.heap.size+2<=b4
section
variable {w0 w w':World} {K b4 n:Nat} {v:Value} {xs:List Value} {acc:List Tree} {cs cs':List Value}
theorem NW.keep (h:NW w0 K b4 v n xs acc cs w) (k:Kp Nil w w'):NW w0 K b4 v n xs acc cs w' :=
 ⟨h.kp.trans k,h.res.kpNil k,h.out.kpNil k,own_kp h.own k (fun _ _ x => x),RpL.kp h.rep k (fun _ _ x => x),h.it.kpNil k,h.nb,h.ge⟩
theorem NW.step (h:NW w0 K b4 v n xs acc cs w) (k:Kp (Only b4) w w') (hB:Blk w' b4 cs' 111):NW w0 K b4 v n xs acc cs' w':=by
 have hg:=h.ge;exact ⟨h.kp.then k (fun i hi => .inr (by have hi:i=b4:=hi;omega)),h.res.kpOnly k (by omega),h.out.kpOnly k (by omega),own_kp h.own k (fun g hg e => h.nb (by have e:g=b4:=e;rw [hg,e])),
  RpL.kp h.rep k (fun b hb e => hb.2 e),hB,h.nb,h.ge⟩
theorem NW.outG (h:NW w0 K b4 v n xs acc cs w) (hg:w.grownBy w' v.ownBlock):Blk w' (w0.heap.size+1) [.int .i64 (K:Nat),.string ⟨#[]⟩,v,.slice none 0 0] 80 :=
 h.out.kp (Kp.ofGrown hg) (fun e => by have:=(h.own.lt _ e.symm).1;omega)
theorem NW.grown {v':Value} {t:Tree} {ys:List Value} {b0:Nat} (h:NW w0 K b4 v n xs acc cs w) (hv:RpT w b0 (fun _ => True) t ys) (hb0:w0.heap.size+2<=b0) (hbv:∀ g,v.ownBlock=some g->g<b0) (hb4:b4<b0)
  (hg:w.grownBy w' v.ownBlock) (ho:w'.ownsRow (w0.heap.size+2) 80 4 v' (n+1) (xs++ys)) (hnew:Fresh w v v'):NW w0 K b4 v' (n+1) (xs++ys) (acc++[t]) cs (w'.setCell ⟨w0.heap.size+1,2,none⟩ v'):=by
 have hb:∀ k,some k=v.ownBlock->w0.heap.size+2<=k:=fun k hk => (h.own.lt k hk.symm).1
 have hk:Kp (fun k => some k=v.ownBlock) w w':=Kp.ofGrown hg;have hge:=h.ge;have hlt4:=h.it.lt;have hx:∀ b,((v.ownBlock ≠ some b/\b ≠ b4)/\b<w.heap.size)->w0.heap.size+2<=b->(v'.ownBlock ≠ some b/\b ≠ b4)/\(b<w.heap.size->(w'.setCell ⟨w0.heap.size+1,2,none⟩ v').heap[b]?=w.heap[b]?):=by
  intro b ⟨⟨hb1,hb2⟩,hb3⟩ hb5;refine ⟨⟨fun e => ?_,hb2⟩,fun hl => ?_⟩
  ·rcases hnew with hn | hn
   ·exact hb1 (hn ▸ e)
   ·have:=hn b e;omega
  ·rw [Below.heap_setCell _ _ _ _ (by simp;omega)];exact hk.block b hl (fun e => hb1 e.symm)
 refine ⟨?_,?_,?_,?_,?_,?_,?_,h.ge⟩
 ·exact Kp.setCell (h.kp.grown hg (fun k hk => .inr (by have:=hb k hk.symm;omega))) (.inr (by simp)) _
 ·exact Blk.other (h.res.kp hk (fun e => by have:=hb _ e;omega)) (by simp) _
 ·exact (h.out.kp hk (fun e => by have:=hb _ e;omega)).putE 2 v' rfl
 ·exact ownsRow_setCell_below ho (by simp) _
 ·refine RpL.append (RpL.leave hx (qqr _) acc xs (RpL.there acc xs h.rep)) (RpT.one (RpT.leave (fun b hb1 hb2 => hx b ⟨⟨fun e => ?_,?_⟩,hb1.2⟩ (by omega)) hb0 t ys (RpT.there t ys hv)))
  ·have:=hbv b e;omega
  ·omega
 ·exact Blk.other (h.it.kp hk (fun e => h.nb e.symm)) (by simp;omega) _
 ·exact fresh_ne hnew h.nb hlt4
theorem NW.tree (h:NW w0 K b4 v n xs acc cs w) (hn:n=acc.length) (k:Kp (Only w0.heap.size) w w'):RpT w' w0.heap.size (fun _ => True) (.mk K [] acc []) [.int .i64 (K:Nat),.string ⟨#[]⟩,v,.slice none 0 0]:=by
 subst hn;rw [RpT.iff];refine ⟨v,.slice none 0 0,xs,rfl,own_mono (own_kp h.own k (fun g hg e => by have:=(h.own.lt g hg).1;have e:g=w0.heap.size:=e;omega)) (by omega),fun _ _ => trivial,?_,OwnS.nil _ _,fun _ _ => trivial⟩;exact RpL.leave (fun b hb h2 => ⟨trivial,fun hl => k.block b hl (fun e => by have e:b=w0.heap.size:=e;omega)⟩) (by omega) acc xs h.rep
end
def sl3 (b:Nat) (w:World):Nat:=match w.cell? ⟨b,2,none⟩ with | some (.slice _ n _) => n | _ => 0
theorem NW.sl3 {w0 w:World} {K b4 n m c:Nat} {a:Option Addr} {xs:List Value} {acc:List Tree} {cs:List Value} (h:NW w0 K b4 (.slice a m c) n xs acc cs w):sl3 (w0.heap.size+1) w=m:=by
 unfold YtpgmddjgcgpoeaaGreat.sl3;rw [h.out.cell 2 rfl]
theorem WfL.mem:∀ {ts:List Tree} {t:Tree},WfL ts->t ∈ ts->Wf t/\t.keys=[]
 | [],_,_,h => by cases h
 | u :: us,t,h,hm => by
  rw [WfL.cons] at h;rcases List.mem_cons.1 hm with rfl | hm
  ·exact ⟨h.1,h.2.1⟩
  ·exact WfL.mem h.2.2 hm
theorem WfB.mem:∀ {ts:List Tree} {t:Tree},WfB ts->t ∈ ts->Wf t/\t.keys ≠ []
 | [],_,_,h => by cases h
 | u :: us,t,h,hm => by
  rw [WfB.cons] at h;rcases List.mem_cons.1 hm with rfl | hm
  ·exact ⟨h.1,h.2.1⟩
  ·exact WfB.mem h.2.2 hm
theorem node_arr (D:Doc) (A:Option Addr) (C bp:Nat) (left nd er:Value) (ns:List Nd) (nst g:Nat) (items:List Tree) (ks:List (List UInt8)) (hitems:∀ t ∈ items,NodeC D A C bp left nd er ns nst g t) (hil:items.length<=100000000) (hkl:∀ t ∈ items,t.keys.length<=100000000):NodeC D A C bp left nd er ns nst g (.mk 8 [] items ks):=by
 intro w i nx hR hs hwf;have hw2:=((Wf.iff.1 hwf).2.1 rfl).2;rw [tNds_mk,if_pos rfl,lNds_c] at hs;have hn:=SegN.head hs;have hcc:CC tNds ns (if items.isEmpty then 0 else i+1+1) items:=CC.of_seg chT items ns (i+1) (SegN.tail hs);have hcn:(if items.isEmpty then 0 else i+2)<=ns.length:=hR.gd.child _ (List.mem_of_getElem? hn);obtain ⟨ch,hch⟩:∃ ch,(if items.isEmpty then 0 else i+2)=ch:=⟨_,rfl⟩;have hch2:(if items.isEmpty then 0 else i+1+1)=ch:=hch;rw [hch2] at hcc;rw [hch] at hn hcn;have hgl:=(hR.pn.rowlt g hR.hg).2;obtain ⟨d,c,x0,x3,x4,x5,x6,x7,x8,x9⟩:=hR.pn.node hR.hg hn;dsimp only at x0;have HR:=qqh hR;have HN:=qqh hn;have HCC:=qqh hcc;have HIT:=qqh hitems;have HKL:=qqh hkl;have HWF:=qqh hw2;have hlen:=hR.gd.len;clear x3 x4 x5 x6 x7 x8 x9 hs hR hn hcc hitems hkl hwf hw2 hch hch2;go_enter Tryz.func32,Tryz.ntmps32;go_wp2_with fail
 refine (kind_c 6 8 (by simp) _).mono ?_;rintro e w1 ⟨rfl,hw1⟩;subst hw1;have hk0:Hid (Kp Nil w ((w.alloc (.cells #[.int .i64 0,.string ⟨#[]⟩,.slice none 0 0,.slice none 0 0] 80)).alloc (.cells #[.int .i64 8,.string ⟨#[]⟩,.slice none 0 0,.slice none 0 0] 80))):=((Kp.refl _ _).alloc _).alloc _;have hP1:=qqh (HR.out.nil hk0.out);go_wp2_with fail
 refine (children_c D A C bp _ left nd er ns nst g i _ (by exact hP1.out.pn) HR.out.hg HN.out hcn (by omega)).mono ?_;rintro e w2 ⟨rfl,hk2⟩;dsimp only;obtain ⟨ia,hia⟩:=IsP.nodePtr g ch;rw [hia];have HIA:=qqh hia;have hs2:=hk2.size;simp at hs2;have HK2:=qqh hk2;have hk3:Kp Nil w w2:=hk0.out.trans hk2;have HK3:=qqh hk3;have hR3:Blk w2 w.heap.size [.int .i64 0,.string ⟨#[]⟩,.slice none 0 0,.slice none 0 0] 80:=((Blk.new w [.int .i64 0,.string ⟨#[]⟩,.slice none 0 0,.slice none 0 0] 80).alloc _).kpNil hk2;have hO3:Blk w2 (w.heap.size+1) [.int .i64 (8:Nat),.string ⟨#[]⟩,.slice none 0 0,.slice none 0 0] 80:=by
  have:=(Blk.new (w.alloc (.cells #[.int .i64 0,.string ⟨#[]⟩,.slice none 0 0,.slice none 0 0] 80)) [.int .i64 8,.string ⟨#[]⟩,.slice none 0 0,.slice none 0 0] 80).kpNil hk2;simpa using this
 have HR3:=qqh hR3;have HO3:=qqh hO3;have o0:=hO3.cell 0 rfl;clear hk2 hia hR3 hO3 hk3;go_wp2_with fail
 obtain ⟨b4,hb4⟩:∃ b4,w2.heap.size=b4:=⟨_,rfl⟩;have hge4:w.heap.size+2<=b4:=by omega
 have hbw:w.heap.size<=b4:=by omega
 have hW0:Hid (NW w 8 b4 (.slice none 0 0) 0 [] [] [.bool false,nodePtr g ch] (w2.alloc (.cells #[.bool false,.pointer ia] 111))):=by
  have k:Kp Nil w2 (w2.alloc (.cells #[.bool false,.pointer ia] 111)):=(Kp.refl _ _).alloc _;refine ⟨HK3.out.trans k,HR3.out.kpNil k,HO3.out.kpNil k,World.ownsRow_nil _ _ _ _,RpL.nil.2 rfl,?_,fun e => (by cases e),hge4⟩;rw [HIA.out,<- hb4];exact Blk.new w2 [.bool false,.pointer ia] 111
 rw [hb4];have HB4:=qqh hb4;clear hb4 x0
 go_loopw [5] (fun _ wr => ∃ (acc rest:List Tree) (cs xs:List Value) (sa:Option Addr) (sc:Nat),Hid (acc++rest=items)/\Hid (ItAt ns g (fun h => CC tNds ns h rest) cs)/\Hid (NW w 8 b4 (.slice sa acc.length sc) acc.length xs acc cs wr)) (fun _ wr => items.length - sl3 (w.heap.size+1) wr)
 case atStart => exact ⟨[],items,_,_,_,_,rfl,.inl ⟨ch,rfl,hcn,HCC.out⟩,hW0⟩
 case round =>
  obtain ⟨acc,rest,cs,xs,sa,sc,hE,hI,hW⟩:=hrel;have hel:acc.length+rest.length=items.length:=by rw [<- hE.out,qqa]
  have hRr:=qqh (HR.out.nil hW.out.kp);have hms:=qqh hW.out.sl3;go_wp2_with fail
  refine (itn D A C bp b4 _ w left nd er ns nst g (fun h => CC tNds ns h rest) cs (by exact hRr.out) HR.out hbw hI.out (by exact hW.out.it)).mono ?_;rintro e w3 ⟨h2,hcc2,hh2,rfl,hR3',hB3,hk3⟩;have hW3:=qqh (hW.out.step hk3 hB3);have HR4:=qqh hR3';have hlt3:=hW3.out.out.lt;have hlt4:=hW3.out.it.lt;clear hR3' hB3 hk3;have o0:=hW3.out.out.cell 0 rfl;have o1:=hW3.out.out.cell 1 rfl;have o2:=hW3.out.out.cell 2 rfl;have o3:=hW3.out.out.cell 3 rfl;cases rest with
  | nil =>
   have hcc2:h2=0:=hcc2;subst hcc2;rw [qqf (by omega)];have r0:=hW3.out.res.cell 0 rfl;have r1:=hW3.out.res.cell 1 rfl;have r2:=hW3.out.res.cell 2 rfl;have r3:=hW3.out.res.cell 3 rfl;have q0:=hW3.out.res.free 0;have q1:=hW3.out.res.free 1;have q2:=hW3.out.res.free 2;have q3:=hW3.out.res.free 3;have hlr:=hW3.out.res.lt;have hac:Hid (acc=items):=(by show _=_;rw [<- hE.out,List.append_nil]);go_wp2_with fail
   refine bodyPost_ret (v:=.agg #[.int .i64 8,.string ⟨#[]⟩,.slice sa acc.length sc,.slice none 0 0]) (by simp [results,Tryz.results32,go_sem,r0,r1,r2,r3]) rfl ?_;refine ⟨[.int .i64 (8:Nat),.string ⟨#[]⟩,.slice sa acc.length sc,.slice none 0 0],rfl,?_,?_⟩
   ·rw [<- hac.out];exact NW.tree hW3.out rfl (Kp.putOnly (Kp.putOnly (Kp.putOnly (Kp.putOnly (Kp.refl _ _) _) _) _) _)
   ·exact Kp.setCell (Kp.setCell (Kp.setCell (Kp.setCell hW3.out.kp (.inr (qqr _)) _) (.inr (qqr _)) _) (.inr (qqr _)) _) (.inr (qqr _)) _
  | cons t ts =>
   obtain ⟨i2,nx2,rfl,hseg,hcc3⟩:=hcc2;rw [qqt (by omega)];have htm:t ∈ items:=(by rw [<- hE.out];simp);obtain ⟨n2,ms,hhd,hnx,hkd⟩:=tNds_head i2 nx2 t;have hseg':=hseg;rw [hhd] at hseg';have hn2:=SegN.head hseg';have hwt:=WfL.mem HWF.out htm;have HWT:=qqh hwt;obtain ⟨d2,c2,x0,x3,x4,x5,x6,x7,x8,x9⟩:=HR4.out.pn.node HR4.out.hg hn2;have HN2:=qqh hn2;have HSEG:=qqh hseg;have HCC3:=qqh hcc3;have e1:((n2.kind:Int) == 1)=false:=qqn (by omega);have HNX:=qqh hnx;clear x3 x4 x5 x6 x7 x8 x9 hn2 hseg hcc3 hwt hhd hseg' hnx hkd;have hel2:acc.length+(ts.length+1)=items.length:=hel;go_wp2_with fail
   refine (inode_c b4 true (nodePtr g (i2+1)) _ (by exact hW3.out.it)).mono ?_;rintro e w4 ⟨rfl,hw4⟩;obtain rfl:=hw4.symm;unfold nodePtr;go_upto_region 13 with fail
   go_region_law (first
    | (refine step_appF rfl T78 _ _ rfl (w.heap.size+2) (.slice sa acc.length sc) acc.length xs rfl (by first | exact own_alloc hL3.out.own _ | exact own_drew (own_alloc hL3.out.own _)) w6.heap.size 1 _ rfl [.int .i64 vk,.string vl,.slice ia' il' ic',.slice ka' kl' kc'] rfl (fun j u hu => by first | (rw [cell_new rfl];simpa using hu) | (change (w6.alloc _).cell? ⟨w6.heap.size,j,none⟩=some u;rw [cell_newI rfl];simpa using hu)) (IsNode.one ⟨_,_,_,_,rfl,⟨_,_,_,rfl⟩,⟨_,_,_,rfl⟩⟩) (by omega) (by omega) (by have:=hL3.out.out.lt;simp;omega) ?_;intro v' w5 hown5 hg5 hfr5;obtain ⟨sa',sl',sc',rfl⟩:=IsSl.own hown5;have HB5:Hid (Blk w5 (w.heap.size+1) [.int .i64 (8:Nat),.string ⟨#[]⟩,.slice sa acc.length sc,.slice none 0 0] 80):=(by first | exact NW.outG (hL3.out.keep ((Kp.refl _ _).alloc _)) hg5 | exact NW.outG (hL3.out.keep (((Kp.refl _ _).alloc _).drew)) hg5);have o25:=HB5.out.cell 2 rfl;have r25:=HB5.out.free 2)
    | (go_simp;go_at_call 32;refine (HIT.out t htm _ i2 nx2 (by first | exact HR4.out.nil (Kp.refl _ _).drew | exact HR4.out) HSEG.out HWT.out.1).mono ?_;rintro e w6 ⟨ys,rfl,hrp,hk6⟩;have hL3:=qqh ((hW3.out.keep (Kp.refl Nil _).drew).keep hk6);have HRP:=qqh hrp;have HK6:=qqh hk6;obtain ⟨vk,vl,vi,vy,rfl,⟨ia',il',ic',rfl⟩,⟨ka',kl',kc',rfl⟩⟩:=RpT.node hrp;have o23:=hL3.out.out.cell 2 rfl;have o24:=(hL3.out.keep ((Kp.refl Nil w6).alloc (.cells #[.int .i64 vk,.string vl,.slice ia' il' ic',.slice ka' kl' kc'] 80))).out.cell 2 rfl;clear hrp hk6))
   all_goals
    obtain rfl:sl'=acc.length+1:=own_len hown5;have hrp:=HRP.out;rw [under_keys HWT.out.2] at hrp;have hrq:=RpT.kp hrp ((Kp.refl Nil w6).alloc (.cells #[.int .i64 vk,.string vl,.slice ia' il' ic',.slice ka' kl' kc'] 80)) (fun _ _ x => x);have hW5:NW w 8 b4 (.slice sa' (acc.length+1) sc') (acc.length+1) (xs++[.int .i64 vk,.string vl,.slice ia' il' ic',.slice ka' kl' kc']) (acc++[t]) [.bool true,nodePtr g (i2+1)] (w5.setCell ⟨w.heap.size+1,2,none⟩ (.slice sa' (acc.length+1) sc')):=by
     first
      | exact NW.grown (b0:=w3.heap.size) (hL3.out.keep ((Kp.refl _ _).alloc _)) hrq (by omega) (fun g hg => (hW3.out.own.lt g hg).2) (by omega) hg5 hown5 hfr5
      | exact NW.grown (b0:=w3.heap.size) (hL3.out.keep (((Kp.refl _ _).alloc _).drew)) (RpT.kp hrq ((Kp.refl Nil _).drew) (fun _ _ x => x)) (by omega) (fun g hg => (hW3.out.own.lt g hg).2) (by omega) hg5 hown5 hfr5
    have hms5:=qqh hW5.sl3;have hE2:Hid ((acc++[t])++ts=items):=(by show _=_;rw [<- hE.out];simp);have hW6:Hid (NW w 8 b4 (.slice sa' (acc++[t]).length sc') (acc++[t]).length (xs++[.int .i64 vk,.string vl,.slice ia' il' ic',.slice ka' kl' kc']) (acc++[t]) [.bool true,nodePtr g (i2+1)] (w5.setCell ⟨w.heap.size+1,2,none⟩ (.slice sa' (acc.length+1) sc'))):=(by show NW _ _ _ _ _ _ _ _ _;rw [qqa];exact hW5);clear hrp hW5;go_wp2_with fail
    go_roundw
    case rel => exact ⟨acc++[t],ts,_,_,_,_,hE2,.inr ⟨i2,n2,rfl,HN2.out,by rw [HNX.out];exact HCC3.out⟩,hW6⟩
    case measure => rw [hms.out,hms5.out];omega
theorem node_tab (D:Doc) (A:Option Addr) (C bp:Nat) (left nd er:Value) (ns:List Nd) (nst g:Nat) (items:List Tree) (ks:List (List UInt8)) (hitems:∀ t ∈ items,NodeC D A C bp left nd er ns nst g t) (hil:items.length<=100000000) (hkl:∀ t ∈ items,t.keys.length<=100000000):NodeC D A C bp left nd er ns nst g (.mk 9 [] items ks):=by
 intro w i nx hR hs hwf;have hw2:=((Wf.iff.1 hwf).2.2.1 rfl).2;rw [tNds_mk,if_neg (by omega),if_pos rfl,bNds_c] at hs;have hn:=SegN.head hs;have hcc:CC kvT ns (if items.isEmpty then 0 else i+1+1) items:=CC.of_seg chB items ns (i+1) (SegN.tail hs);have hcn:(if items.isEmpty then 0 else i+2)<=ns.length:=hR.gd.child _ (List.mem_of_getElem? hn);obtain ⟨ch,hch⟩:∃ ch,(if items.isEmpty then 0 else i+2)=ch:=⟨_,rfl⟩;have hch2:(if items.isEmpty then 0 else i+1+1)=ch:=hch;rw [hch2] at hcc;rw [hch] at hn hcn;have hgl:=(hR.pn.rowlt g hR.hg).2;obtain ⟨d,c,x0,x3,x4,x5,x6,x7,x8,x9⟩:=hR.pn.node hR.hg hn;dsimp only at x0;have HR:=qqh hR;have HN:=qqh hn;have HCC:=qqh hcc;have HIT:=qqh hitems;have HKL:=qqh hkl;have HWF:=qqh hw2;have hlen:=hR.gd.len;clear x3 x4 x5 x6 x7 x8 x9 hs hR hn hcc hitems hkl hwf hw2 hch hch2;go_enter Tryz.func32,Tryz.ntmps32;go_wp2_with fail
 refine (kind_c 7 9 (by simp) _).mono ?_;rintro e w1 ⟨rfl,hw1⟩;subst hw1;have hk0:Hid (Kp Nil w ((w.alloc (.cells #[.int .i64 0,.string ⟨#[]⟩,.slice none 0 0,.slice none 0 0] 80)).alloc (.cells #[.int .i64 9,.string ⟨#[]⟩,.slice none 0 0,.slice none 0 0] 80))):=((Kp.refl _ _).alloc _).alloc _;have hP1:=qqh (HR.out.nil hk0.out);go_wp2_with fail
 refine (children_c D A C bp _ left nd er ns nst g i _ (by exact hP1.out.pn) HR.out.hg HN.out hcn (by omega)).mono ?_;rintro e w2 ⟨rfl,hk2⟩;dsimp only;obtain ⟨ia,hia⟩:=IsP.nodePtr g ch;rw [hia];have HIA:=qqh hia;have hs2:=hk2.size;simp at hs2;have HK2:=qqh hk2;have hk3:Kp Nil w w2:=hk0.out.trans hk2;have HK3:=qqh hk3;have hR3:Blk w2 w.heap.size [.int .i64 0,.string ⟨#[]⟩,.slice none 0 0,.slice none 0 0] 80:=((Blk.new w [.int .i64 0,.string ⟨#[]⟩,.slice none 0 0,.slice none 0 0] 80).alloc _).kpNil hk2;have hO3:Blk w2 (w.heap.size+1) [.int .i64 (9:Nat),.string ⟨#[]⟩,.slice none 0 0,.slice none 0 0] 80:=by
  have:=(Blk.new (w.alloc (.cells #[.int .i64 0,.string ⟨#[]⟩,.slice none 0 0,.slice none 0 0] 80)) [.int .i64 9,.string ⟨#[]⟩,.slice none 0 0,.slice none 0 0] 80).kpNil hk2;simpa using this
 have HR3:=qqh hR3;have HO3:=qqh hO3;have o0:=hO3.cell 0 rfl;clear hk2 hia hR3 hO3 hk3;go_wp2_with fail
 obtain ⟨b4,hb4⟩:∃ b4,w2.heap.size=b4:=⟨_,rfl⟩;have hge4:w.heap.size+2<=b4:=by omega
 have hbw:w.heap.size<=b4:=by omega
 have hW0:Hid (NW w 9 b4 (.slice none 0 0) 0 [] [] [.bool false,nodePtr g ch] (w2.alloc (.cells #[.bool false,.pointer ia] 111))):=by
  have k:Kp Nil w2 (w2.alloc (.cells #[.bool false,.pointer ia] 111)):=(Kp.refl _ _).alloc _;refine ⟨HK3.out.trans k,HR3.out.kpNil k,HO3.out.kpNil k,World.ownsRow_nil _ _ _ _,RpL.nil.2 rfl,?_,fun e => (by cases e),hge4⟩;rw [HIA.out,<- hb4];exact Blk.new w2 [.bool false,.pointer ia] 111
 rw [hb4];have HB4:=qqh hb4;clear hb4 x0
 go_loopw [5] (fun _ wr => ∃ (acc rest:List Tree) (cs xs:List Value) (sa:Option Addr) (sc:Nat),Hid (acc++rest=items)/\Hid (ItAt ns g (fun h => CC kvT ns h rest) cs)/\Hid (NW w 9 b4 (.slice sa acc.length sc) acc.length xs acc cs wr)) (fun _ wr => items.length - sl3 (w.heap.size+1) wr)
 case atStart => exact ⟨[],items,_,_,_,_,rfl,.inl ⟨ch,rfl,hcn,HCC.out⟩,hW0⟩
 case round =>
  obtain ⟨acc,rest,cs,xs,sa,sc,hE,hI,hW⟩:=hrel;have hel:acc.length+rest.length=items.length:=by rw [<- hE.out,qqa]
  have hRr:=qqh (HR.out.nil hW.out.kp);have hms:=qqh hW.out.sl3;go_wp2_with fail
  refine (itn D A C bp b4 _ w left nd er ns nst g (fun h => CC kvT ns h rest) cs (by exact hRr.out) HR.out hbw hI.out (by exact hW.out.it)).mono ?_;rintro e w3 ⟨h2,hcc2,hh2,rfl,hR3',hB3,hk3⟩;have hW3:=qqh (hW.out.step hk3 hB3);have HR4:=qqh hR3';have hlt3:=hW3.out.out.lt;have hlt4:=hW3.out.it.lt;clear hR3' hB3 hk3;have o0:=hW3.out.out.cell 0 rfl;have o1:=hW3.out.out.cell 1 rfl;have o2:=hW3.out.out.cell 2 rfl;have o3:=hW3.out.out.cell 3 rfl;cases rest with
  | nil =>
   have hcc2:h2=0:=hcc2;subst hcc2;rw [qqf (by omega)];have r0:=hW3.out.res.cell 0 rfl;have r1:=hW3.out.res.cell 1 rfl;have r2:=hW3.out.res.cell 2 rfl;have r3:=hW3.out.res.cell 3 rfl;have q0:=hW3.out.res.free 0;have q1:=hW3.out.res.free 1;have q2:=hW3.out.res.free 2;have q3:=hW3.out.res.free 3;have hlr:=hW3.out.res.lt;have hac:Hid (acc=items):=(by show _=_;rw [<- hE.out,List.append_nil]);go_wp2_with fail
   refine bodyPost_ret (v:=.agg #[.int .i64 9,.string ⟨#[]⟩,.slice sa acc.length sc,.slice none 0 0]) (by simp [results,Tryz.results32,go_sem,r0,r1,r2,r3]) rfl ?_;refine ⟨[.int .i64 (9:Nat),.string ⟨#[]⟩,.slice sa acc.length sc,.slice none 0 0],rfl,?_,?_⟩
   ·rw [<- hac.out];exact NW.tree hW3.out rfl (Kp.putOnly (Kp.putOnly (Kp.putOnly (Kp.putOnly (Kp.refl _ _) _) _) _) _)
   ·exact Kp.setCell (Kp.setCell (Kp.setCell (Kp.setCell hW3.out.kp (.inr (qqr _)) _) (.inr (qqr _)) _) (.inr (qqr _)) _) (.inr (qqr _)) _
  | cons t ts =>
   obtain ⟨i2,nx2,rfl,hseg,hcc3⟩:=hcc2;rw [qqt (by omega)];have htm:t ∈ items:=(by rw [<- hE.out];simp);have hn2:ns[i2]?=some ⟨5,[],nx2,i2+t.keys.length+2⟩:=SegN.head hseg;have hsk:SegN ns (i2+1) (keyNds (i2+1) t.keys):=SegN.left (SegN.tail hseg);have hsv:SegN ns (i2+1+t.keys.length) (tNds (i2+1+t.keys.length) (i2+2) t):=by
    have:=SegN.right (SegN.tail hseg);rw [keyNds_len] at this;exact this
   have hwt:=WfB.mem HWF.out htm;have HWT:=qqh hwt;have HSK:=qqh hsk;have HSV:=qqh hsv;obtain ⟨d2,c2,x0,x3,x4,x5,x6,x7,x8,x9⟩:=HR4.out.pn.node HR4.out.hg hn2;have HN2:=qqh hn2;have HSEG:=qqh hseg;have HCC3:=qqh hcc3;dsimp only at x0;clear x3 x4 x5 x6 x7 x8 x9 hn2 hseg hcc3 hwt hsk hsv;have hel2:acc.length+(ts.length+1)=items.length:=hel;go_wp2_with fail
   refine (inode_c b4 true (nodePtr g (i2+1)) _ (by exact hW3.out.it)).mono ?_;rintro e w4 ⟨rfl,hw4⟩;obtain rfl:=hw4.symm;unfold nodePtr;obtain ⟨nv,msv,hhv,hnv,_⟩:=tNds_head (i2+1+t.keys.length) (i2+2) t;have hsv':=HSV.out;rw [hhv] at hsv';have hnvv:=SegN.head hsv';have HNV:=qqh hnvv;have hkc:KC ns nv.next t.keys:=by
    have:=KC.of_seg t.keys ns (i2+1) HSK.out;cases hkk:t.keys with
    | nil => exact absurd hkk HWT.out.2
    | cons a b => rw [hkk] at this;rw [hnv];exact this
   have HKC:=qqh hkc;have hnvn:nv.next<=ns.length:=HR.out.gd.next nv (List.mem_of_getElem? hnvv);have hchild:i2+t.keys.length+2<=ns.length:=HR.out.gd.child _ (List.mem_of_getElem? HN2.out);clear hsv' hhv hnvv hkc hnv;go_wp2_with fail
   refine (value33_c D A C bp _ left nd er ns nst g i2 _ (by exact HR4.out.pn) HR.out.hg HN2.out hchild (by omega)).mono ?_;rintro e w5 ⟨rfl,m5,rfl⟩;have hW5:=qqh (hW3.out.keep ((Kp.refl Nil w3).drewN m5));have HR5:=qqh (HR4.out.nil ((Kp.refl Nil w3).drewN m5));rw [show nodePtr g (Nd.mk 5 [] nx2 (i2+t.keys.length+2)).child=.pointer (some ⟨g,7 * (i2+1+t.keys.length),none⟩) by show nodePtr g (i2+t.keys.length+2)=_;rw [show i2+t.keys.length+2=(i2+1+t.keys.length)+1 by omega];rfl];go_wp2_with fail
   refine (HIT.out t htm _ (i2+1+t.keys.length) (i2+2) (by exact HR5.out) HSV.out HWT.out.1).mono ?_;rintro e w6 ⟨ys,rfl,hrp,hk6⟩;have hW6:=qqh (hW5.out.keep hk6);have HR6:=qqh (HR5.out.nil hk6);have HRP:=qqh hrp;have HK6X:=qqh hk6;obtain ⟨vk,vl,vi,vy,rfl,⟨ia',il',ic',rfl⟩,⟨ka',kl',kc',rfl⟩⟩:=RpT.node hrp;have hs6:=hk6.size;clear hrp hk6;go_upto_region 11 with fail;obtain ⟨B,hB⟩:∃ B,w6.heap.size=B:=⟨_,rfl⟩;have hB1:Hid (Blk (w6.alloc (.cells #[.int .i64 vk,.string vl,.slice ia' il' ic',.slice ka' kl' kc'] 80)) B [.int .i64 vk,.string vl,.slice ia' il' ic',.slice ka' kl' kc'] 80):=(by show Blk _ _ _ _;rw [<- hB];exact Blk.new w6 [.int .i64 vk,.string vl,.slice ia' il' ic',.slice ka' kl' kc'] 80);have hal:Kp Nil w6 (w6.alloc (.cells #[.int .i64 vk,.string vl,.slice ia' il' ic',.slice ka' kl' kc'] 80)):=(Kp.refl _ _).alloc _;have hW7:=qqh (hW6.out.keep hal);have HR7:=qqh (HR6.out.nil hal);have hltB:w3.heap.size<=B:=(by simp at hs6;omega);have HAL:=qqh hal;rw [hB];have HBE:=qqh hB;clear hal hB hs6;go_wp2_with fail
   refine (keys31_c D A C bp _ left nd er ns nst g i2 nv.next t.keys (by exact HR7.out) (keyV_c D A C bp _ left nd er ns nst g i2 (i2+1+t.keys.length) _ nv HR7.out.pn HR.out.hg HN2.out rfl (by show i2+t.keys.length+2=_;omega) HNV.out hnvn (by omega) HR.out.gd.kind) hnvn HKC.out (HKL.out t htm)).mono ?_;rintro e w8 ⟨kv,rfl,hown8,hk8⟩;obtain ⟨ka8,kl8,kc8,rfl⟩:=IsSl.own hown8;have hW8:=qqh (hW7.out.keep hk8);have hB8:=qqh (hB1.out.kpNil hk8);have HO8:=qqh hown8;have HK8:=qqh hk8;have hs8:=hk8.size;simp at hs8;have HR8:=qqh ((RpT.there _ _ HRP.out).kp (HAL.out.trans hk8) (fun _ _ x => x));have bf3:=hB8.out.free 3;have bc0:=hB8.out.cell 0 rfl;have bc1:=hB8.out.cell 1 rfl;have bc2:=hB8.out.cell 2 rfl;have bc3:=hB8.out.cell 3 rfl;have hltB8:=hB8.out.lt;clear hown8 hk8;go_upto_region 12 with fail;obtain ⟨W9,hW9e⟩:∃ W9,w8.setCell ⟨B,3,none⟩ (.slice ka8 kl8 kc8)=W9:=⟨_,rfl⟩;have hkp9:Kp (Only B) w8 W9:=(by rw [<- hW9e];exact (Kp.refl _ _).putOnly _);have hB9:Hid (Blk W9 B [.int .i64 vk,.string vl,.slice ia' il' ic',.slice ka8 kl8 kc8] 80):=(by show Blk _ _ _ _;rw [<- hW9e];exact hB8.out.putE 3 _ rfl);have hWg:=hW3.out.own.lt;have hW9:Hid (NW w 9 b4 (.slice sa acc.length sc) acc.length xs acc [.bool true,nodePtr g (i2+1)] W9):=by
    have hx:=hW8.out;refine ⟨hx.kp.then hkp9 (fun i hi => .inr (by have hi:i=B:=hi;omega)),hx.res.kpOnly hkp9 (by omega),hx.out.kpOnly hkp9 (by omega),own_kp hx.own hkp9 (fun g' hg' e => by have:=hWg g' hg';have e:g'=B:=e;omega),?_,hx.it.kpOnly hkp9 (by omega),hx.nb,hx.ge⟩;have hold:=(NW.rep hW3.out);have hk38:Kp Nil w3 w8:=(((Kp.refl Nil w3).drewN m5).trans HK6X.out).trans (HAL.out.trans HK8.out);refine RpL.leave (w:=w3) (base:=w.heap.size+2) (S:=fun b => ((Value.slice sa acc.length sc).ownBlock ≠ some b/\b ≠ b4)/\b<w3.heap.size) (fun b hb h2 => ⟨hb.1,fun hl => ?_⟩) (qqr _) acc xs (RpL.there acc xs hold);rw [hkp9.block b (by have:=hk38.size;omega) (fun e => by have e:b=B:=e;omega),hk38.block b hl (fun x => x)]
   have hT9:Hid (RpT W9 w3.heap.size (fun _ => True) t [.int .i64 vk,.string vl,.slice ia' il' ic',.slice ka8 kl8 kc8]):=by
    cases t with
    | mk tk tl tit tks =>
     have h1:=HR8.out;have h1:RpT w8 _ _ (.mk tk tl tit []) _:=h1;rw [RpT.iff] at h1;obtain ⟨vi',vy',xs',e,h2,h3,h4,_,_⟩:=h1;simp only [List.cons.injEq] at e;obtain ⟨e1,e2,e3,e4,_⟩:=e;subst e3 e4;show RpT _ _ _ _ _;rw [RpT.iff];have hlo:=own_kp h2 hkp9 (fun g' hg' e => by have:=(h3 g' hg').2;have e:g'=B:=e;have:=HBE.out;omega);refine ⟨_,_,xs',by rw [e1,e2],own_mono hlo (by simp),fun _ _ => trivial,?_,own_mono (own_kp HO8.out hkp9 (fun g' hg' e => by have h:=(World.ownsRow.lt HO8.out g' hg').1;simp at h;have e:g'=B:=e;have:=HBE.out;omega)) (by have:=HBE.out;simp;omega),fun _ _ => trivial⟩;exact RpL.leave (fun b hb h2 => ⟨trivial,fun hl => hkp9.block b hl (fun e => by have e:b=B:=e;have:=hb.2;have:=HBE.out;omega)⟩) (by simp) tit xs' h4
   rw [hW9e];have p0:=hB9.out.cell 0 rfl;have p1:=hB9.out.cell 1 rfl;have p2:=hB9.out.cell 2 rfl;have p3:=hB9.out.cell 3 rfl;have q2:=hW9.out.out.cell 2 rfl;have q2f:=hW9.out.out.free 2;have hlt9:=hW9.out.out.lt;clear hW9e hkp9 bf3 bc0 bc1 bc2 bc3 o0 o1 o2 o3;go_wp2_with (at_builtin;refine wpList_appF rfl T78 _ _ rfl (w.heap.size+2) (.slice sa acc.length sc) acc.length xs rfl (by exact own_alloc hW9.out.own _) W9.heap.size 1 _ rfl [.int .i64 vk,.string vl,.slice ia' il' ic',.slice ka8 kl8 kc8] rfl (fun j u hu => by change (W9.alloc _).cell? ⟨W9.heap.size,j,none⟩=some u;rw [cell_newI rfl];simpa using hu) (IsNode.one ⟨_,_,_,_,rfl,⟨_,_,_,rfl⟩,⟨_,_,_,rfl⟩⟩) (by omega) (by omega) (by simp;omega) ?_)
   intro v' w10 hown5 hg5 hfr5;obtain ⟨sa',sl',sc',rfl⟩:=IsSl.own hown5;obtain rfl:sl'=acc.length+1:=own_len hown5;have HB5:=qqh (NW.outG (hW9.out.keep ((Kp.refl _ _).alloc _)) hg5);have o25:=HB5.out.cell 2 rfl;have r25:=HB5.out.free 2;have hW10:NW w 9 b4 (.slice sa' (acc.length+1) sc') (acc.length+1) (xs++[.int .i64 vk,.string vl,.slice ia' il' ic',.slice ka8 kl8 kc8]) (acc++[t]) [.bool true,nodePtr g (i2+1)] (w10.setCell ⟨w.heap.size+1,2,none⟩ (.slice sa' (acc.length+1) sc')) :=
    NW.grown (b0:=w3.heap.size) (hW9.out.keep ((Kp.refl _ _).alloc _)) (RpT.kp hT9.out ((Kp.refl Nil W9).alloc _) (fun _ _ x => x)) (by omega) (fun g hg => (hW3.out.own.lt g hg).2) (by omega) hg5 hown5 hfr5
   have hms5:=qqh hW10.sl3;have hE2:Hid ((acc++[t])++ts=items):=(by show _=_;rw [<- hE.out];simp);have hW11:Hid (NW w 9 b4 (.slice sa' (acc++[t]).length sc') (acc++[t]).length (xs++[.int .i64 vk,.string vl,.slice ia' il' ic',.slice ka8 kl8 kc8]) (acc++[t]) [.bool true,nodePtr g (i2+1)] (w10.setCell ⟨w.heap.size+1,2,none⟩ (.slice sa' (acc.length+1) sc'))):=(by show NW _ _ _ _ _ _ _ _ _;rw [qqa];exact hW10);clear hW10 hown5 hg5 hfr5;go_wp2_with fail
   go_roundw
   case rel => exact ⟨acc++[t],ts,_,_,_,_,hE2,.inr ⟨i2,_,rfl,HN2.out,HCC3.out⟩,hW11⟩
   case measure => rw [hms.out,hms5.out];omega
def OkH (D:Doc) (A:Option Addr) (C bp:Nat) (w:World) (nd0 left er:Value) (N:Nat) (ns':List Nd) (nst p:Nat) (e:Ending) (w':World):Prop :=
 ∃ a n c nd,e=.returned (.tuple #[.int .i32 ((N+1:Nat):Int),.slice a n c,.nilIface])/\VW D A C p a n c/\PN D A C bp w' left nd ns' er nst/\Fr bp w nd0 w' nd
theorem ErrH.from_ {D:Doc} {A:Option Addr} {C bp nst:Nat} {left er:Value} {w w1 w':World} {e:Ending} (h:ErrH D A C bp left er nst w1 e w') (k:KB bp w w1):ErrH D A C bp left er nst w e w':=by
 obtain ⟨v,nd,N,xs,h1,h2,h3,h4⟩:=h;exact ⟨v,nd,N,xs,h1,h2,h3,k.trans h4⟩
def VlPost (D:Doc) (A:Option Addr) (C bp:Nat) (w:World) (nd0 left er:Value) (ns:List Nd) (nst:Nat) (r:R Tree) (e:Ending) (w':World):Prop :=
 match r with
 | .good t p => OkH D A C bp w nd0 left er ns.length (ns++tNds ns.length 0 t) nst p e w'\/(ErrH D A C bp left er nst w e w'/\ctxB D p)
 | _ => ErrH D A C bp left er nst w e w'
def ValCI (D:Doc) (d:Nat):Prop:=∀ (A a:Option Addr) (C bp k n c:Nat) (w:World) (left nd er:Value) (ns:List Nd) (nst:Nat),PN D A C bp w left nd ns er nst->ns.length+4 * (D.n - k)<=90000000->VW D A C k a n c->nst+d<=100->valP D d k ≠ .opn ->
 Calls Tryz.prog 91 #[.pointer (some ⟨bp,0,none⟩),.slice a n c] w (VlPost D A C bp w nd left er ns nst (valP D d k))
def KvPost (D:Doc) (A:Option Addr) (C bp:Nat) (w:World) (nd0 left er:Value) (ns:List Nd) (nst:Nat) (r:R (List (List UInt8) × Tree)) (e:Ending) (w':World):Prop :=
 match r with
 | .good x p => OkH D A C bp w nd0 left er ns.length (ns++kvNds ns.length 0 x.1 x.2) nst p e w'\/(ErrH D A C bp left er nst w e w'/\ctxB D p)
 | _ => ErrH D A C bp left er nst w e w'
theorem kv_final (ns:List Nd) (ks:List (List UInt8)) (t:Tree) (vh kh:Nat) (hv:vh=ns.length+ks.length+2) (hk:kh=ns.length+2) :
  setNext (setChild ((ns++[⟨5,[],0,0⟩])++keyNds (ns.length+1) ks++tNds (ns.length+1+ks.length) 0 t) ns.length vh) (vh - 1) kh=ns++kvNds ns.length 0 ks t:=by
 subst hv hk;have h1:setChild (ns++([⟨5,[],0,0⟩]++(keyNds (ns.length+1) ks++tNds (ns.length+1+ks.length) 0 t))) ns.length (ns.length+ks.length+2)=ns++setChild ([⟨5,[],0,0⟩]++(keyNds (ns.length+1) ks++tNds (ns.length+1+ks.length) 0 t)) 0 (ns.length+ks.length+2) :=
  setChild_right ns _ 0 _
 rw [List.append_assoc,List.append_assoc,h1];show setNext (ns++(⟨5,[],0,ns.length+ks.length+2⟩ :: (keyNds (ns.length+1) ks++tNds (ns.length+1+ks.length) 0 t))) _ _=_;rw [setNext_off _ _ (ks.length+1) _ _ (by omega)];show ns++(⟨5,[],0,ns.length+ks.length+2⟩ :: setNext (keyNds (ns.length+1) ks++tNds (ns.length+1+ks.length) 0 t) ks.length (ns.length+2))=_;rw [setNext_off _ _ 0 _ _ (by rw [keyNds_len];omega),tNds_next]
 rfl
theorem NRep.setRaw {w:World} {A:Option Addr} {bp:Nat} {nd:Value} (x y:Int):∀ (ns:List Nd) (xs:List Value) (i:Nat),i<ns.length->NRep w A bp nd ns xs->NRep w A bp nd ns ((xs.set (7 * i+1) (.int .u32 x)).set (7 * i+2) (.int .u32 y))
 | [],_,_,h,_ => absurd h (by simp)
 | n :: ns,_,0,_,h => by
  obtain ⟨o,l,d,rest,rfl,h1,h2⟩:=h;exact ⟨x,y,d,rest,rfl,h1,h2⟩
 | n :: ns,_,i+1,hi,h => by
  obtain ⟨o,l,d,rest,rfl,h1,h2⟩:=h;refine ⟨o,l,d,_,?_,h1,NRep.setRaw x y ns rest i (by simpa using hi) h2⟩;rw [show 7 * (i+1)+1=(7 * i+1)+7 by omega,show 7 * (i+1)+2=(7 * i+2)+7 by omega];simp
theorem PN.setRaw {D:Doc} {A:Option Addr} {C bp:Nat} {w:World} {left nd er:Value} {ns:List Nd} {nst:Nat} (h:PN D A C bp w left nd ns er nst) {g:Nat} (hg:nd.ownBlock=some g) (i:Nat) (x y:Int) (hi:i<ns.length) :
  PN D A C bp ((w.setCell ⟨g,7 * i+1,none⟩ (.int .u32 x)).setCell ⟨g,7 * i+2,none⟩ (.int .u32 y)) left nd ns er nst:=by
 obtain ⟨xs,h1,h2⟩:=h;have hS:∀ b,bp<b->some b ≠ nd.ownBlock->¬ Only g b:=fun b _ hb e => hb (by have e:b=g:=e;rw [e,hg])
 have hA:∀ a,A=some a->¬ Only g a.block:=fun a ha e => (h1.ltA a ha).2.1 (by have e:a.block=g:=e;rw [e,hg])
 refine ⟨_,(h1.stored hg _ rfl).stored hg _ rfl,NRep.setRaw x y ns xs i hi ?_⟩;exact NRep.step (S:=Only g) (((Kp.refl _ _).putOnly _).putOnly _) (fun b h1 h2 _ => hS b h1 h2) hA (Fresh.refl _ _) _ _ h2
theorem ck_of_key {D:Doc} {k:Nat} (hw:noWs D k):KL D (keyP D k) (ckRun D k []):=by have:=key_law D _ k [] rfl;rw [hw.stop] at this;exact this
theorem kv_c (D:Doc) (d:Nat) (hval:ValCI D d) (A a:Option Addr) (C bp k n c:Nat) (w:World) (left nd er:Value) (ns:List Nd) (nst:Nat) (hP:PN D A C bp w left nd ns er nst) (hB:ns.length+4 * (D.n - k)<=90000000) (hv:VW D A C k a n c)
  (hd:nst+d<=100) (hw:noWs D k) (hno:kvR2 D (valP D d) k ≠ .opn) :
  Calls Tryz.prog 83 #[.pointer (some ⟨bp,0,none⟩),.slice a n c] w (KvPost D A C bp w nd left er ns nst (kvR2 D (valP D d) k)):=by
 have hs:=D.small;have hC1:=hP.doc.1;have hC2:=hP.doc.2.1;have hlt:=hP.ltB;have hcp:=qql hv.cap;have hcp':=qql hv.cap.symm;have hkn:k<=D.n:=by have:=hv.len;omega
 obtain ⟨r,hr⟩:∃ r,kvR2 D (valP D d) k=r:=⟨_,rfl⟩;rw [hr] at hno ⊢;have hKL:=ck_of_key hw;have hcno:ckRun D k [] ≠ .opn:=by
  intro e;rw [e] at hKL;unfold KL at hKL;cases hkr:keyP D k with
  | good ks p => rw [hkr] at hKL;cases hKL
  | bad => rw [hkr] at hKL;rcases hKL with h | ⟨_,_,h,_⟩ <;> cases h
  | opn => apply hno;rw [<- hr];unfold kvR2;rw [hkr]
 have HP:=qqh hP;have HV:=qqh hv;have HR:=qqh hr;have HNO:=qqh hno;have HKL:=qqh hKL;have HVAL:=qqh hval;have HROW:Hid (∀ g,nd.ownBlock=some g->bp<g):=fun g hg => (HP.out.rowlt g hg).1
 clear hP hv hr hno hKL hval hw;go_enter Tryz.func83,Tryz.ntmps83;go_wp2_with fail
 refine (push_n D A C bp _ left nd er ns nst (by exact HP.out) (by omega) 5 0 0 (.slice none 0 0) (.pointer none) [] ⟨none,0,rfl,fun h => absurd rfl h⟩).mono ?_;rintro e w1 ⟨nd1,rfl,hP1,hF1⟩;have HP1:=qqh hP1;have HF1:=qqh hF1;have hl1:Hid ((ns++[(⟨5,[],0,0⟩:Nd)]).length=ns.length+1):=by show _=_;simp
 clear hP1 hF1;go_wp2_with fail
 refine (pkey_c D A a C bp k n c _ left nd1 er (ns++[⟨5,[],0,0⟩]) nst (by exact HP1.out) (by rw [hl1.out];omega) HV.out hcno).mono ?_;intro e w2 hpost;obtain ⟨cr,hcr⟩:∃ cr,ckRun D k []=cr:=⟨_,rfl⟩;rw [hcr] at hpost HKL hcno;have HCR:=qqh hcr;have HPost:=qqh hpost;have HCNO:=qqh hcno;clear hcr hpost hcno;cases cr with
 | opn => exact absurd rfl HCNO.out
 | bad =>
  obtain ⟨v,nd2,N2,xs2,rfl,hE,hPI,hKB⟩:=HPost.out;have HKB:=qqh hKB;obtain ⟨b,rfl⟩:=Err.ptr hE;have HE:=qqh hE;have HPI:=qqh hPI;have hrb:R.bad=r:=by
   rw [<- HR.out];unfold kvR2;cases hkr:keyP D k with
   | good ks p => have h:=HKL.out;rw [hkr] at h;cases h
   | bad => rfl
   | opn => exfalso;apply HNO.out;rw [<- HR.out];unfold kvR2;rw [hkr]
  have HRB:=qqh hrb;clear hE hPI HPost hrb hKB;go_wp2_with fail
  go_ret3
  rw [<- HRB.out];exact ⟨_,_,_,_,rfl,HE.out,HPI.out,(HF1.out.kb HROW.out).trans HKB.out⟩
 | good ks p =>
  obtain ⟨a2,n2,c2,nd2,rfl,hvw,hP2,hF2⟩:=HPost.out;obtain ⟨KH,hKH⟩:∃ KH,(ns++[(⟨5,[],0,0⟩:Nd)]).length+1=KH:=⟨_,rfl⟩;rw [hKH];have HKH:Hid (KH=ns.length+2):=by show _=_;rw [<- hKH,hl1.out]
  clear hKH;have hkp:=ck_len D _ k [] ks p rfl HCR.out;have hks:ks.length<=p - k:=by have:=hkp.2;simp at this;exact this
  have hkp1:=hkp.1;have hl2:=qql hvw.len;have hl2':=qql hvw.len.symm;have hc2:=qql hvw.cap;have hc2':=qql hvw.cap.symm;have HP2:=qqh hP2;have HF2:=qqh (HF1.out.trans hF2);have HVW:=qqh hvw;clear hvw hP2 hF2 HPost hkp HP1 HF1;have hlt2:=HP2.out.ltB;by_cases h61:D.c p=61
  ·have hkey:Hid (keyP D k=.good ks p):=by
    show _=_;have h:=HKL.out;cases hkr:keyP D k with
    | good ks' p' => rw [hkr] at h;injection h with e1 e2;rw [e1,e2]
    | bad =>
     rw [hkr] at h;rcases h with h | ⟨ks',p',h,hq⟩
     ·cases h
     ·injection h with e1 e2;subst e2;omega
    | opn => exfalso;apply HNO.out;rw [<- HR.out];unfold kvR2;rw [hkr]
   have hin:=Doc.in_of (D:=D) (k:=p) (by omega);obtain ⟨bd,q,rfl,hb⟩:=HVW.out.bytes HP2.out.doc hin;have b0:=hb 0 (by omega);simp only [Nat.add_zero] at b0;have e61:((D.c p:Int) != 61)=false:=(by rw [bne_eq_false_iff_eq];omega);have hR2:Hid (r=kvThen ks (valP D d (wsEnd D (p+1)))):=by
    show _=_;rw [<- HR.out];unfold kvR2;rw [hkey.out];dsimp only;rw [if_pos h61]
   obtain ⟨a3,hva,hrun⟩:=VW.from_ HVW.out hC1 1 1 rfl (by omega);have HVA:=qqh hva;clear hb h61 hva;go_wp2_with fail
   refine (skip_c D A a3 C (p+1) (n2 - 1) (c2 - 1) _ (by exact HP2.out.doc) HVA.out).mono ?_;rintro e w3 ⟨hw3,a4,n4,c4,rfl,hv4⟩;obtain rfl:=hw3.symm;have hb3:=wsEnd_ge D (p+1);have hb4:=wsEnd_le D (p+1);obtain ⟨k3,hk3⟩:∃ k3,wsEnd D (p+1)=k3:=⟨_,rfl⟩;rw [hk3] at hb3 hb4 hv4 hR2;have HV4:=qqh hv4;have hc4:=qql hv4.cap;have hc4':=qql hv4.cap.symm;obtain ⟨rv,hrv⟩:∃ rv,valP D d k3=rv:=⟨_,rfl⟩;rw [hrv] at hR2;have HRV:=qqh hrv;have hl3:Hid ((ns++[(⟨5,[],0,0⟩:Nd)]++keyNds (ns++[(⟨5,[],0,0⟩:Nd)]).length ks).length=ns.length+1+ks.length):=(by show _=_;rw [qqa,keyNds_len,hl1.out]);have hvno:Hid (valP D d k3 ≠ .opn):=by
    show _ ≠ _;intro e
    apply HNO.out
    rw [hR2.out,<- HRV.out,e];rfl
   clear hk3 hv4 hrv;go_wp2_with fail
   refine (HVAL.out A a4 C bp k3 n4 c4 _ left nd2 er _ nst (by exact HP2.out) (by rw [hl3.out];omega) HV4.out hd hvno.out).mono ?_;intro e w4 hpost;rw [HRV.out] at hpost;have HPost:=qqh hpost;clear hpost;have herr:ErrH D A C bp left er nst w2 e w4->Hid (KvPost D A C bp w nd left er ns nst r e w4/\ErrH D A C bp left er nst w e w4)\/∃ t p',rv=.good t p'/\OkH D A C bp w2 nd2 left er (ns.length+1+ks.length) (ns++[⟨5,[],0,0⟩]++keyNds (ns.length+1) ks++tNds (ns.length+1+ks.length) 0 t) nst p' e w4:=by
    intro h0;have h:=h0.from_ (HF2.out.kb HROW.out);cases rv with
    | good t p' =>
     rcases HPost.out with h1 | ⟨h1,h2⟩
     ·refine .inr ⟨t,p',rfl,?_⟩;rw [hl3.out,hl1.out] at h1;exact h1
     ·refine .inl ⟨?_,h⟩;rw [hR2.out];exact .inr ⟨h,h2⟩
    | bad => refine .inl ⟨?_,h⟩;rw [hR2.out];exact h
    | opn => exact absurd HRV.out hvno.out
   have hcase:Hid (KvPost D A C bp w nd left er ns nst r e w4/\ErrH D A C bp left er nst w e w4)\/∃ t p',rv=.good t p'/\OkH D A C bp w2 nd2 left er (ns.length+1+ks.length) (ns++[⟨5,[],0,0⟩]++keyNds (ns.length+1) ks++tNds (ns.length+1+ks.length) 0 t) nst p' e w4:=by
    cases rv with
    | good t p' =>
     rcases HPost.out with h1 | ⟨h1,h2⟩
     ·refine .inr ⟨t,p',rfl,?_⟩;rw [hl3.out,hl1.out] at h1;exact h1
     ·exact herr h1
    | bad => exact herr HPost.out
    | opn => exact absurd HRV.out hvno.out
   clear herr;rcases hcase with hbad | ⟨t,p',hrvg,hok⟩
   ·obtain ⟨v,nd5,N5,xs5,rfl,hE,hPI,_⟩:=hbad.out.2;obtain ⟨b,rfl⟩:=Err.ptr hE;clear hE hPI;go_wp2_with fail
    go_ret3
    exact hbad.out.1
   ·obtain ⟨a5,n5,c5,nd5,rfl,hvw5,hP5,hF5⟩:=hok;have hp':=valP_in D d k3 t p' (by omega) (by rw [HRV.out,hrvg]);have hc5:=qql hvw5.cap;have hc5':=qql hvw5.cap.symm;have HP5:=qqh hP5;have HF5:=qqh (HF2.out.trans hF5);have HV5:=qqh hvw5;have hRG:Hid (r=.good (ks,t) p'):=(by show _=_;rw [hR2.out,hrvg];rfl);have hsz:tSize t<=p' - k3:=(fok D d).sz k3 t p' (by omega) (by rw [HRV.out,hrvg]);have hl5:Hid ((ns++[(⟨5,[],0,0⟩:Nd)]++keyNds (ns.length+1) ks++tNds (ns.length+1+ks.length) 0 t).length=ns.length+1+ks.length+tSize t):=(by show _=_;rw [qqa,tNds_len,qqa,keyNds_len,hl1.out]);have hpos:=tSize_pos t;clear hvw5 hP5 hF5 HPost HF2 HP2 hrvg hvno;obtain ⟨VH,hVH⟩:∃ VH,ns.length+1+ks.length+1=VH:=⟨_,rfl⟩;rw [hVH];have HVH:=qqh hVH;have hVHb:ns.length+2<=VH/\VH<=100000000/\VH<=ns.length+1+ks.length+tSize t:=(by omega);clear hVH;go_wp2_with fail
    refine (at_c D A C bp _ left nd5 er _ nst (by exact HP5.out) (ns.length+1) (by omega) (by rw [hl5.out];omega) (by rw [hl5.out];omega)).mono ?_;rintro e w6 ⟨⟨g,hg,rfl⟩,hw6⟩;obtain rfl:=hw6.symm;have HG:=qqh hg;clear hg;rw [Nat.add_sub_cancel];have hcx:∀ j,j<7 * VH->∃ v,w4.cell? ⟨g,j,none⟩=some v:=fun j hj => (PN.cell HP5.out HG.out j (by rw [hl5.out];omega)).1
    have hfx:∀ j,j<7 * VH->w4.frozen? ⟨g,j,none⟩=false:=fun j hj => (PN.cell HP5.out HG.out j (by rw [hl5.out];omega)).2
    obtain ⟨u6,hu6⟩:=hcx (7 * ns.length+6) (by omega);have hf6:=hfx (7 * ns.length+6) (by omega);have hP6:=qqh (PN.setChild HP5.out HG.out ns.length VH (by rw [hl5.out];omega));clear hcx hfx;go_wp2_with fail
    have hl6:Hid ((setChild (ns++[(⟨5,[],0,0⟩:Nd)]++keyNds (ns.length+1) ks++tNds (ns.length+1+ks.length) 0 t) ns.length VH).length=ns.length+1+ks.length+tSize t):=(by show _=_;rw [setChild_len,hl5.out]);refine (at_c D A C bp _ left nd5 er _ nst (by exact hP6.out) VH (by omega) (by rw [hl6.out];omega) (by rw [hl6.out];omega)).mono ?_;rintro e w7 ⟨⟨g',hg',rfl⟩,hw7⟩;obtain rfl:=hw7;obtain rfl:g=g':=(by have:=HG.out;rw [hg'] at this;injection this with this;exact this.symm);clear hg';obtain ⟨⟨u7,hu7⟩,hf7⟩:=PN.cell hP6.out HG.out (7 * (VH - 1)+5) (by rw [hl6.out];omega);have hP7:=qqh (PN.setNext hP6.out HG.out (VH - 1) KH (by rw [hl6.out];omega));go_wp2_with fail
    have hl7:Hid ((setNext (setChild (ns++[(⟨5,[],0,0⟩:Nd)]++keyNds (ns.length+1) ks++tNds (ns.length+1+ks.length) 0 t) ns.length VH) (VH - 1) KH).length=ns.length+1+ks.length+tSize t):=(by show _=_;rw [setNext_len,hl6.out]);refine (at_c D A C bp _ left nd5 er _ nst (by exact hP7.out) (ns.length+1) (by omega) (by rw [hl7.out];omega) (by rw [hl7.out];omega)).mono ?_;rintro e w8 ⟨⟨g',hg',rfl⟩,hw8⟩;obtain rfl:=hw8;obtain rfl:g=g':=(by have:=HG.out;rw [hg'] at this;injection this with this;exact this.symm);clear hg';rw [Nat.add_sub_cancel];go_wp2_with fail
    refine (rangeFrom_c D A a a5 C n c n5 c5 bp _ (by exact hP7.out.ltB) (by exact hP7.out.data) hC2 (by omega) (by omega)).mono ?_;rintro e w9 ⟨⟨x,y,rfl⟩,hk9⟩;have hP9:=qqh (hP7.out.nil hk9);have HK9:=qqh hk9;clear hk9;obtain ⟨⟨u9,hu9⟩,hf9⟩:=PN.cell hP9.out HG.out (7 * ns.length+1) (by rw [hl7.out];omega);obtain ⟨⟨u10,hu10⟩,hf10⟩:=PN.cell hP9.out HG.out (7 * ns.length+2) (by rw [hl7.out];omega);go_wp2_with fail
    go_ret3
    rw [hRG.out];have hP10:=PN.setRaw hP9.out HG.out ns.length x y (by rw [hl7.out];omega);rw [kv_final ns ks t VH KH (by rw [<- HVH.out];omega) HKH.out] at hP10;exact .inl ⟨_,_,_,_,rfl,HV5.out,hP10,(((HF5.out.trans (Fr.row HG.out _)).trans (Fr.row HG.out _)).trans (Fr.nil HK9.out)).trans ((Fr.row HG.out _).trans (Fr.row HG.out _))⟩
  ·have hrb:R.bad=r:=by
    rw [<- HR.out];unfold kvR2;have h:=HKL.out;cases hkr:keyP D k with
    | good ks' p' => rw [hkr] at h;injection h with e1 e2;subst e1 e2;dsimp only;rw [if_neg h61]
    | bad => rfl
    | opn => exfalso;apply HNO.out;rw [<- HR.out];unfold kvR2;rw [hkr]
   have HRB:=qqh hrb;clear hrb;rcases Nat.eq_zero_or_pos n2 with h0 | h0
   ·obtain rfl:=h0;clear h61;go_wp2_with fail
    refine (hl1_c D A a2 C p 0 c2 _ hC1 HVW.out).mono ?_;rintro e w3 ⟨⟨m1,rfl,hm1⟩,hw3⟩;obtain rfl:=hw3.symm;go_wp2_with fail
    refine (newErr_c _ _ _ _ _ (by omega)).mono ?_;rintro e w4 ⟨⟨v,rfl,hE⟩,hk1⟩;go_wp2_with fail
    go_ret3
    rw [<- HRB.out];exact PN.errH HP2.out hk1 hE hlt2 (HF2.out.kb HROW.out)
   ·obtain ⟨bd,q,rfl,hb⟩:=HVW.out.bytes HP2.out.doc (by omega);have b0:=hb 0 (by omega);simp only [Nat.add_zero] at b0;have e61:((D.c p:Int) != 61)=true:=(by rw [bne_iff_ne];omega);clear hb h61;go_wp2_with fail
    refine (hl1_c D A _ C p n2 c2 _ hC1 HVW.out).mono ?_;rintro e w3 ⟨⟨m1,rfl,hm1⟩,hw3⟩;obtain rfl:=hw3.symm;go_wp2_with fail
    refine (newErr_c _ _ _ _ _ (by omega)).mono ?_;rintro e w4 ⟨⟨v,rfl,hE⟩,hk1⟩;go_wp2_with fail
    go_ret3
    rw [<- HRB.out];exact PN.errH HP2.out hk1 hE hlt2 (HF2.out.kb HROW.out)
structure AW (D:Doc) (A:Option Addr) (C bp:Nat) (w0:World) (nd0 left er:Value) (nst b2 b7 b8 H lc:Nat) (ns:List Nd) (w:World) (nd:Value):Prop where
 pn:PN D A C bp w left nd ns er nst
 fr:Fr bp w0 nd0 w nd
 h2:Blk w b2 [.pointer (some ⟨bp,0,none⟩)] 74
 h7:Blk w b7 [.int .i32 (H:Nat)] 21
 h8:Blk w b8 [.int .i32 (lc:Nat)] 21
 g:w0.heap.size<=b2/\w0.heap.size<=b7/\w0.heap.size<=b8
 r2:nd.ownBlock ≠ some b2
 r7:nd.ownBlock ≠ some b7
 r8:nd.ownBlock ≠ some b8
 d:b2 ≠ b8/\b7 ≠ b8
 lt:bp<w0.heap.size
 ltA:∀ a,A=some a->a.block<w0.heap.size
section
variable {D:Doc} {A:Option Addr} {C bp:Nat} {w0 w w':World} {nd0 left er nd nd':Value} {nst b2 b7 b8 H lc h:Nat} {ns ns':List Nd}
theorem AW.call (x:AW D A C bp w0 nd0 left er nst b2 b7 b8 H lc ns w nd) (hp:PN D A C bp w' left nd' ns' er nst) (f:Fr bp w nd w' nd'):AW D A C bp w0 nd0 left er nst b2 b7 b8 H lc ns' w' nd':=by
 have hb:=x.g;have hl:=x.lt;have h2:=f.blk x.h2 (by omega) x.r2;have h7:=f.blk x.h7 (by omega) x.r7;have h8:=f.blk x.h8 (by omega) x.r8;exact ⟨hp,x.fr.trans f,h2.1,h7.1,h8.1,x.g,h2.2,h7.2,h8.2,x.d,x.lt,x.ltA⟩
theorem AW.nil (x:AW D A C bp w0 nd0 left er nst b2 b7 b8 H lc ns w nd) (k:Kp Nil w w'):AW D A C bp w0 nd0 left er nst b2 b7 b8 H lc ns w' nd:=x.call (x.pn.nil k) (Fr.nil k)
theorem AW.app (x:AW D A C bp w0 nd0 left er nst b2 b7 b8 H lc ns w nd) (hp:PN D A C bp w' left nd ns' er nst) (h8:Blk w' b8 [.int .i32 (h:Nat)] 21) (k:KA b8 nd w w'):AW D A C bp w0 nd0 left er nst b2 b7 b8 H h ns' w' nd:=by
 have hd:=x.d;refine ⟨hp,⟨x.fr.1.then k (fun i hi => ?_),?_⟩,x.h2.kp k (fun e => e.elim hd.1 (fun e => x.r2 e.symm)),x.h7.kp k (fun e => e.elim hd.2 (fun e => x.r7 e.symm)),h8,x.g,x.r2,x.r7,x.r8,x.d,x.lt,x.ltA⟩
 ·rcases hi with hi | hi
  ·exact .inr (by rw [hi];exact x.g.2.2)
  ·rcases x.fr.2 with e | e
   ·exact .inl (.inr (by rw [hi,e]))
   ·exact .inr (e i hi.symm)
 ·exact x.fr.2
theorem AW.start {w1:World} {nd1:Value} (hlt:bp<w.heap.size) (hA:∀ a,A=some a->a.block<w.heap.size) (hrow:∀ g,nd.ownBlock=some g->g<w.heap.size)
  (hp:PN D A C bp w1 left nd1 ns' er nst) (f:Fr bp (w.alloc (.cells #[.pointer (some ⟨bp,0,none⟩)] 74)) nd w1 nd1) (e7:b7=w1.heap.size) (e8:b8=w1.heap.size+1) {w3:World}
  (hw:w3=(w1.alloc (.cells #[.int .i32 (H:Nat)] 21)).alloc (.cells #[.int .i32 0] 21)) :
  AW D A C bp w nd left er nst w.heap.size b7 b8 H 0 ns' w3 nd1:=by
 subst hw e7 e8;have hn:nd.ownBlock ≠ some w.heap.size:=fun e => by have:=hrow _ e;omega
 have h2:=f.blk (Blk.new w [.pointer (some ⟨bp,0,none⟩)] 74) (by omega) hn;have hsz:=f.1.size;simp at hsz;have hr1:∀ b,w1.heap.size<=b->nd1.ownBlock ≠ some b:=fun b hb e => by have:=(hp.rowlt _ e).2;omega
 have k1:Kp Nil w1 (w1.alloc (.cells #[.int .i32 (H:Nat)] 21)):=(Kp.refl _ _).alloc _;have k2:=k1.alloc (.cells #[.int .i32 0] 21);refine ⟨hp.nil k2,⟨?_,?_⟩,h2.1.kpNil k2,?_,?_,by omega,h2.2,hr1 _ (qqr _),hr1 _ (by omega),by omega,hlt,hA⟩
 ·exact ((((Kp.refl _ w).alloc (.cells #[.pointer (some ⟨bp,0,none⟩)] 74)).then f.1 (fun i hi => .inl hi))).then k2 (fun _ x => x.elim)
 ·rcases f.2 with e | e
  ·exact .inl e
  ·exact .inr (fun b hb => by have:=e b hb;simp at this;omega)
 ·exact (Blk.new w1 [.int .i32 (H:Nat)] 21).alloc _
 ·have:=Blk.new (w1.alloc (.cells #[.int .i32 (H:Nat)] 21)) [.int .i32 0] 21;simpa using this
end
structure AW0 (D:Doc) (A:Option Addr) (C bp:Nat) (w0:World) (nd0 left er:Value) (nst b2 b7 H:Nat) (ns:List Nd) (w:World) (nd:Value):Prop where
 pn:PN D A C bp w left nd ns er nst
 fr:Fr bp w0 nd0 w nd
 h2:Blk w b2 [.pointer (some ⟨bp,0,none⟩)] 74
 h7:Blk w b7 [.int .i32 (H:Nat)] 21
 g:w0.heap.size<=b2/\w0.heap.size<=b7
 r2:nd.ownBlock ≠ some b2
 r7:nd.ownBlock ≠ some b7
 lt:bp<w0.heap.size
 ltA:∀ a,A=some a->a.block<w0.heap.size
theorem AW0.box {D:Doc} {A:Option Addr} {C bp:Nat} {w0 w:World} {nd0 left er nd:Value} {nst b2 b7 H:Nat} {ns:List Nd} (x:AW0 D A C bp w0 nd0 left er nst b2 b7 H ns w nd) :
  AW D A C bp w0 nd0 left er nst b2 b7 w.heap.size H 0 ns (w.alloc (.cells #[.int .i32 0] 21)) nd:=by
 have k:Kp Nil w (w.alloc (.cells #[.int .i32 0] 21)):=(Kp.refl _ _).alloc _;have h1:=x.h2.lt;have h2:=x.h7.lt;have h3:=x.fr.1.size;exact ⟨x.pn.nil k,x.fr.trans (Fr.nil k),x.h2.kpNil k,x.h7.kpNil k,Blk.new w [.int .i32 0] 21,⟨x.g.1,x.g.2,h3⟩,x.r2,x.r7,fun e => by have:=(x.pn.rowlt _ e).2;omega,⟨by omega,by omega⟩,x.lt,x.ltA⟩
theorem AW0.mk0 {D:Doc} {A:Option Addr} {C bp:Nat} {w w5 w6:World} {left er nd nd6:Value} {nst:Nat} {ns':List Nd} (hlt:bp<w.heap.size) (hrow:∀ g,nd.ownBlock=some g->g<w.heap.size)
  (k5:Kp Nil (w.alloc (.cells #[.pointer (some ⟨bp,0,none⟩)] 74)) w5) (f:Fr bp w5 nd w6 nd6):Blk w6 w.heap.size [.pointer (some ⟨bp,0,none⟩)] 74/\nd6.ownBlock ≠ some w.heap.size/\Fr bp w nd w6 nd6/\w.heap.size<w5.heap.size:=by
 have hn:nd.ownBlock ≠ some w.heap.size:=fun e => by have:=hrow _ e;omega
 have h2:=f.blk ((Blk.new w [.pointer (some ⟨bp,0,none⟩)] 74).kpNil k5) (by omega) hn;have h3:=k5.size;simp at h3;exact ⟨h2.1,h2.2,(Fr.nil (((Kp.refl Nil w).alloc _).trans k5)).trans f,by omega⟩
theorem AW0.mkA {D:Doc} {A:Option Addr} {C bp:Nat} {w w5 w6:World} {left er nd nd6 v:Value} {nst H:Nat} {ns':List Nd} (hlt:bp<w.heap.size) (hA:∀ a,A=some a->a.block<w.heap.size) (hrow:∀ g,nd.ownBlock=some g->g<w.heap.size)
  (k5:Kp Nil (w.alloc (.cells #[.pointer (some ⟨bp,0,none⟩)] 74)) w5) (f:Fr bp w5 nd w6 nd6) (hp:PN D A C bp w6 left nd6 ns' er nst) (hv:v=.int .i32 (H:Nat)) :
  AW0 D A C bp w nd left er nst w.heap.size w6.heap.size H ns' (w6.alloc (.cells #[v] 21)) nd6:=by
 subst hv;obtain ⟨h2,h3,h4,h5⟩:=AW0.mk0 (D:=D) (A:=A) (C:=C) (left:=left) (er:=er) (nst:=nst) (ns':=ns') hlt hrow k5 f;have k:Kp Nil w6 (w6.alloc (.cells #[.int .i32 (H:Nat)] 21)):=(Kp.refl _ _).alloc _;exact ⟨hp.nil k,h4.trans (Fr.nil k),h2.kpNil k,Blk.new w6 [.int .i32 (H:Nat)] 21,⟨qqr _,h4.1.size⟩,h3,fun e => by have:=(hp.rowlt _ e).2;omega,hlt,hA⟩
theorem AW0.mkB {D:Doc} {A:Option Addr} {C bp b7:Nat} {w w5 w6:World} {left er nd nd6 v:Value} {nst H:Nat} {ns':List Nd} (hlt:bp<w.heap.size) (hA:∀ a,A=some a->a.block<w.heap.size) (hrow:∀ g,nd.ownBlock=some g->g<w.heap.size)
  (k5:Kp Nil (w.alloc (.cells #[.pointer (some ⟨bp,0,none⟩)] 74)) w5) (f:Fr bp w5 nd w6 nd6) (hp:PN D A C bp w6 left nd6 ns' er nst) (hv:v=.int .i32 (H:Nat)) (hb:Blk w6 b7 [.int .i32 0] 21/\nd6.ownBlock ≠ some b7) (h7:w.heap.size<b7) :
  AW0 D A C bp w nd left er nst w.heap.size b7 H ns' (w6.setCell ⟨b7,0,none⟩ v) nd6:=by
 subst hv;obtain ⟨h2,h3,h4,h5⟩:=AW0.mk0 (D:=D) (A:=A) (C:=C) (left:=left) (er:=er) (nst:=nst) (ns':=ns') hlt hrow k5 f;refine ⟨hp.put hb.1 (noU8_i32 _) (by omega) hb.2 (fun a ha e => by have:=hA a ha;omega) _,⟨h4.1.setCell (p:=⟨b7,0,none⟩) (.inr (by show w.heap.size<=b7;omega)) _,h4.2⟩,h2.other (by show w.heap.size ≠ b7;omega) _,hb.1.putE 0 _ rfl,⟨qqr _,by omega⟩,h3,hb.2,hlt,hA⟩
theorem cmtRun_gt {D:Doc} {k k2:Nat} (h:D.c k=35) (hc:cmtRun D k=.good () k2):k<k2:=by
 have hk:=Doc.in_of (D:=D) (k:=k) (by omega);have hn:nlen D k=0:=by unfold nlen;rw [if_neg (by omega),if_neg (by omega)]
 have hs:sg D k=1:=by unfold sg sgN;rw [if_pos (by omega)]
 rw [cmtRun,if_neg (by omega),if_neg (by omega),if_neg (by omega),hs] at hc;have:=cmtRun_ge D _ _ hc;omega
theorem arr_c (D:Doc) (d:Nat) (hval:ValCI D d) (A a:Option Addr) (C bp k n c:Nat) (w:World) (left nd er:Value) (ns:List Nd) (nst:Nat) (hP:PN D A C bp w left nd ns er nst) (hB:ns.length+4 * (D.n - k)<=90000000) (hv:VW D A C k a n c)
  (hd:nst+d<=100) (hk:k<D.n) (hno:lstRun D (valP D d) (k+1) [] ≠ .opn) :
  Calls Tryz.prog 99 #[.pointer (some ⟨bp,0,none⟩),.slice a n c] w (VlPost D A C bp w nd left er ns nst (lstRun D (valP D d) (k+1) [])):=by
 have hs:=D.small;have hC1:=hP.doc.1;have hC2:=hP.doc.2.1;have hlt:=hP.ltB;have hln:=qql hv.len;have hln':=qql hv.len.symm;have hcp:=qql hv.cap;have hcp':=qql hv.cap.symm;have hA:=fun a ha => (hP.apartA a ha).2.2
 have hrow:=fun g hg => (hP.rowlt g hg).2
 obtain ⟨r,hr⟩:∃ r,lstRun D (valP D d) (k+1) []=r:=⟨_,rfl⟩;rw [hr] at hno ⊢;obtain ⟨a0,hva,hrun⟩:=VW.from_ hv hC1 1 1 rfl (by omega);have HP:=qqh hP;have HV:=qqh hv;have HR:Hid (lstS D (valP D d) false (k+1) []=r):=hr;have HNO:=qqh hno;have HVAL:=qqh hval;have HVA0:=qqh hva;have HA:=qqh hA;have HROW:=qqh hrow;have HROWB:Hid (∀ g,nd.ownBlock=some g->bp<g):=fun g hg => (HP.out.rowlt g hg).1
 have HFO:=qqh (fok D d);clear hP hv hr hno hval hva hA hrow;go_enter Tryz.func99,Tryz.ntmps99;go_wp2_with fail
 have hP0:Hid (PN D A C bp (w.alloc (.cells #[.pointer (some ⟨bp,0,none⟩)] 74)) left nd ns er nst):=HP.out.nil ((Kp.refl Nil w).alloc _);refine (push_n D A C bp _ left nd er ns nst (by exact hP0.out) (by omega) 6 0 0 (.slice none 0 0) (.pointer none) [] ⟨none,0,rfl,fun h => absurd rfl h⟩).mono ?_;rintro e w1 ⟨nd1,rfl,hP1,hF1⟩;have HP1:=qqh hP1;have HF1:=qqh hF1;clear hP1 hF1 hP0;obtain ⟨H,hH⟩:∃ H,ns.length+1=H:=⟨_,rfl⟩;rw [hH];have HH:=qqh hH;have hHb:1<=H/\H<=100000000:=by omega
 clear hH;go_upto_region 5 with fail;refine wp_gen (fun W => Hid (AW D A C bp w nd left er nst w.heap.size w1.heap.size (w1.heap.size+1) H 0 (ns++[(⟨6,[],0,0⟩:Nd)]) W nd1)) (AW.start hlt HA.out HROW.out HP1.out HF1.out rfl rfl rfl) ?_;intro W HW0;clear HP1 HF1;have hW0:Hid (AW D A C bp w nd left er nst w.heap.size w1.heap.size (w1.heap.size+1) H (lstH tSize ns.length []) (ns++hdNds tNds tSize 6 ns.length []) W nd1):=HW0.out;clear HW0;go_wp2_with fail
 go_loopw [1,10,11,12] (fun b x10 x11 x12 wr => ∃ (j:Nat) (av:Bool) (acc:List Tree) (a1:Option Addr) (n1 c1:Nat) (ndx:Value),b=.slice a1 n1 c1/\x10=.int .i32 0/\x11=.int .i32 0/\x12=.bool av/\k+1<=j/\j<=D.n/\cSize tSize acc<=j - (k+1)/\Hid (VW D A C j a1 n1 c1)/\Hid (AW D A C bp w nd left er nst w.heap.size w1.heap.size (w1.heap.size+1) H (lstH tSize ns.length acc) (ns++hdNds tNds tSize 6 ns.length acc) wr ndx)/\Hid (lstS D (valP D d) av j acc=r)) (fun b _ _ _ _ => slen b)
 case atStart => exact ⟨k+1,false,[],_,_,_,_,rfl,rfl,rfl,rfl,qqr _,by omega,Nat.zero_le _,HVA0,hW0,HR⟩
 case round =>
  obtain ⟨j,av,acc,a1,n1,c1,ndx,rfl,rfl,rfl,rfl,hj1,hj2,hsz,hV,hW,HR⟩:=hrel;have hlj:=qql hV.out.len;have hlj':=qql hV.out.len.symm;go_wp2_with fail
  refine (skip_c D A a1 C j n1 c1 _ (by exact hW.out.pn.doc) hV.out).mono ?_;rintro e w2 ⟨hw2,a2,n2,c2,rfl,hv2⟩;obtain rfl:=hw2.symm;have hb3:=wsEnd_ge D j;have hb4:wsEnd D j<=D.n:=by have:=wsEnd_le D j;omega
  have HR1:Hid (lstS D (valP D d) av (wsEnd D j) acc=r):=by show _=_;rw [lstS_ws HFO.out hj2];exact HR.out
  have hws:Hid (noWs D (wsEnd D j)):=noWs_end D j;obtain ⟨j1,hj1'⟩:∃ j1,wsEnd D j=j1:=⟨_,rfl⟩;rw [hj1'] at hb3 hb4 hv2 HR1 hws;have HV2:=qqh hv2;have hl2:=qql hv2.len;have hl2':=qql hv2.len.symm;have hc2:=qql hv2.cap;have hc2':=qql hv2.cap.symm;have hltW:=hW.out.pn.ltB;have hx2:=hW.out.h2.cell 0 rfl;have hx7:=hW.out.h7.cell 0 rfl;have hx0:=hW.out.pn.choose_spec.1.blk.cell 0 rfl;clear hj1' hv2 HR hV;rcases Nat.eq_zero_or_pos n2 with h0 | h0
  ·have HRB:Hid (r=.bad):=(by show _=_;rw [<- HR1.out];exact lstS_bad HFO.out (by omega) (.inl (D.out j1 (by omega))) av acc (by rw [HR1.out];exact HNO.out));obtain rfl:=h0;go_wp2_with fail
   refine (newErr_c _ _ _ _ _ (by omega)).mono ?_;rintro e w4 ⟨⟨v,rfl,hE⟩,hk1⟩;go_wp2_with fail
   go_ret3
   rw [HRB.out];exact PN.errH hW.out.pn hk1 hE hltW (hW.out.fr.kb HROWB.out)
  obtain ⟨bd,q,rfl,hb⟩:=HV2.out.bytes hW.out.pn.doc (by omega);have HB:=qqh hb;have b0:=hb 0 (by omega);simp only [Nat.add_zero] at b0;clear hb;by_cases h93:D.c j1=93
  ·have e93:((D.c j1:Int) == 93)=true:=(by rw [beq_iff_eq];omega);have HRG:Hid (r=.good (.mk 8 [] acc []) (j1+1)):=(by show _=_;rw [<- HR1.out];exact lstS_close HFO.out (by omega) h93 av acc);obtain ⟨a3,hva,hrun3⟩:=VW.from_ HV2.out hC1 1 1 rfl (by omega);have HVA:=qqh hva;clear h93 hva;go_wp2_with fail
   go_quiet (fail)
   go_wp2_with fail
   go_ret3
   rw [HRG.out];have hp:=hW.out.pn;rw [hd_list ns.length acc []] at hp;exact .inl ⟨_,_,_,_,ret_key HH.out.symm,HVA.out,hp.nil ((Kp.refl Nil wr).drewN _),hW.out.fr.trans (Fr.nil ((Kp.refl Nil wr).drewN _))⟩
  have e93:((D.c j1:Int) == 93)=false:=qqn (by omega);by_cases h10:D.c j1=10
  ·have e10:((D.c j1:Int) == 10)=true:=(by rw [beq_iff_eq];omega);have HS:Hid (lstS D (valP D d) av (j1+1) acc=r):=by
    show _=_;have hn:nlen D j1=1:=(by unfold nlen;rw [if_pos h10]);have:=lstS_nl HFO.out (by omega) (show nlen D j1 ≠ 0 by omega) av acc;rw [hn] at this;rw [this];exact HR1.out
   obtain ⟨a3,hva,hrun3⟩:=VW.from_ HV2.out hC1 1 1 rfl (by omega);have HVA:=qqh hva;have HW2:=hW;clear h10 hva;go_wp2_with fail
   go_roundw
   case rel => exact ⟨j1+1,av,acc,_,_,_,_,rfl,rfl,rfl,rfl,by omega,by omega,by omega,HVA,HW2,HS⟩
   case measure => simp [slen];omega
  have e10:((D.c j1:Int) == 10)=false:=qqn (by omega);by_cases h13:D.c j1=13
  ·have e13:((D.c j1:Int) == 13)=true:=(by rw [beq_iff_eq];omega);by_cases h10':D.c (j1+1)=10
   ·have hin1:=Doc.in_of (D:=D) (k:=j1+1) (by omega);have b1:=HB.out 1 (by omega);have e10':((D.c (j1+1):Int) == 10)=true:=(by rw [beq_iff_eq];omega);have HS:Hid (lstS D (valP D d) av (j1+2) acc=r):=by
     show _=_;have hn:nlen D j1=2:=(by unfold nlen;rw [if_neg h10,if_pos ⟨h13,h10'⟩]);have:=lstS_nl HFO.out (by omega) (show nlen D j1 ≠ 0 by omega) av acc;rw [hn] at this;rw [this];exact HR1.out
    obtain ⟨a3,hva,hrun3⟩:=VW.from_ HV2.out hC1 2 2 rfl (by omega);have HVA:=qqh hva;have HW2:=hW;clear h13 h10' h10 hva;go_wp2_with fail
    go_roundw
    case rel => exact ⟨j1+2,av,acc,_,_,_,_,rfl,rfl,rfl,rfl,by omega,by omega,by omega,HVA,HW2,HS⟩
    case measure => simp [slen];omega
   ·have HRB:Hid (r=.bad):=by
     show _=_;rw [<- HR1.out];exact lstS_bad HFO.out (by omega) (.inr ⟨h13,by unfold nlen;rw [if_neg h10,if_neg (fun x => h10' x.2)]⟩) av acc (by rw [HR1.out];exact HNO.out)
    have hrunt:=upto_ (some ⟨bd,q,none⟩) n2 c2 1 1 rfl (by omega);rcases qqg 1 n2 with hl1 | hl1
    ·have b1:=HB.out 1 (by omega);have e10':((D.c (j1+1):Int) == 10)=false:=qqn (by omega);clear h13 h10' h10;go_wp2_with fail
     refine (newErr_c _ _ _ _ _ (by omega)).mono ?_;rintro e w4 ⟨⟨v,rfl,hE⟩,hk1⟩;go_wp2_with fail
     go_ret3
     rw [HRB.out];exact PN.errH hW.out.pn hk1 hE hltW (hW.out.fr.kb HROWB.out)
    ·obtain rfl:n2=1:=(by omega);clear h13 h10' h10;go_wp2_with fail
     refine (newErr_c _ _ _ _ _ (by omega)).mono ?_;rintro e w4 ⟨⟨v,rfl,hE⟩,hk1⟩;go_wp2_with fail
     go_ret3
     rw [HRB.out];exact PN.errH hW.out.pn hk1 hE hltW (hW.out.fr.kb HROWB.out)
  have e13:((D.c j1:Int) == 13)=false:=qqn (by omega);by_cases h35:D.c j1=35
  ·have e35:((D.c j1:Int) == 35)=true:=(by rw [beq_iff_eq];omega);have H35:=qqh h35;clear h35 h10 h13;go_wp2_with fail
   refine (scanCmt_c D A _ C j1 n2 c2 _ (by exact hW.out.pn.doc) HV2.out (by omega) H35.out).mono ?_;intro e w4 hpost;obtain ⟨rc,hrc⟩:∃ rc,cmtRun D j1=rc:=⟨_,rfl⟩;rw [hrc] at hpost;have HRC:=qqh hrc;have HPost:=qqh hpost;clear hpost hrc;cases rc with
   | opn =>
    exact absurd (show cmt D j1=.opn by unfold cmt;rw [if_pos H35.out];exact HRC.out) (cmt_not_opn D j1)
   | bad =>
    obtain ⟨⟨v,rfl,hE⟩,hk1⟩:=HPost.out;have HRB:Hid (r=.bad):=(by show _=_;rw [<- HR1.out];exact lstS_cmtb H35.out HRC.out av acc (by rw [HR1.out];exact HNO.out));obtain ⟨bb,rfl⟩:=Err.ptr hE;have HE:=qqh hE;have HK1:=qqh hk1;clear hE hk1;go_wp2_with fail
    go_ret3
    rw [HRB.out];exact PN.errH hW.out.pn HK1.out HE.out hltW (hW.out.fr.kb HROWB.out)
   | good u k2 =>
    obtain ⟨⟨m,rfl⟩,x,a3,n3,c3,rfl,hsl,hvw⟩:=HPost.out;obtain ⟨xa,xl,xc,rfl⟩:=hsl;have hk2:=cmtRun_gt H35.out HRC.out;have HS:Hid (lstS D (valP D d) av k2 acc=r):=(by show _=_;rw [lstS_cmt HFO.out (by omega) H35.out HRC.out];exact HR1.out);have hl3:=qql hvw.len;have hl3':=qql hvw.len.symm;have HVA:=qqh hvw;have HW2:=qqh (hW.out.nil ((Kp.refl Nil wr).drewN m));clear hvw HPost;go_wp2_with fail
    go_roundw
    case rel => exact ⟨k2,av,acc,_,_,_,_,rfl,rfl,rfl,rfl,by omega,by omega,by omega,HVA,HW2,HS⟩
    case measure => simp [slen];omega
  have e35:((D.c j1:Int) == 35)=false:=qqn (by omega);by_cases h44:D.c j1=44
  ·have e44:((D.c j1:Int) == 44)=true:=(by rw [beq_iff_eq];omega);cases av with
   | true =>
    have HS:Hid (lstS D (valP D d) false (j1+1) acc=r):=(by show _=_;rw [<- lstS_comma h44];exact HR1.out);obtain ⟨a3,hva,hrun3⟩:=VW.from_ HV2.out hC1 1 1 rfl (by omega);have HVA:=qqh hva;have HW2:=hW;clear h44 hva;go_wp2_with fail
    go_roundw
    case rel => exact ⟨j1+1,false,acc,_,_,_,_,rfl,rfl,rfl,rfl,by omega,by omega,by omega,HVA,HW2,HS⟩
    case measure => simp [slen];omega
   | false =>
    have HRB:Hid (r=.bad):=(by show _=_;rw [<- HR1.out];exact lstS_comma0 HFO.out (by omega) h44 acc (by rw [HR1.out];exact HNO.out));have hrunt:=upto_ (some ⟨bd,q,none⟩) n2 c2 1 1 rfl (by omega);clear h44;go_wp2_with fail
    refine (newErr_c _ _ _ _ _ (by omega)).mono ?_;rintro e w4 ⟨⟨v,rfl,hE⟩,hk1⟩;go_wp2_with fail
    go_ret3
    rw [HRB.out];exact PN.errH hW.out.pn hk1 hE hltW (hW.out.fr.kb HROWB.out)
  have e44:((D.c j1:Int) == 44)=false:=qqn (by omega);have hoth:Hid (lstO D j1):=by show lstO D j1;have:=hws.out;unfold noWs at this;unfold lstO;omega
  clear h93 h10 h13 h35 h44;cases av with
  | true =>
   have HRB:Hid (r=.bad):=(by show _=_;rw [<- HR1.out];exact (lstS_other HFO.out (by omega) hoth.out acc).1);have hrunt:=upto_ (some ⟨bd,q,none⟩) n2 c2 1 1 rfl (by omega);go_wp2_with fail
   refine (newErr_c _ _ _ _ _ (by omega)).mono ?_;rintro e w4 ⟨⟨v,rfl,hE⟩,hk1⟩;go_wp2_with fail
   go_ret3
   rw [HRB.out];exact PN.errH hW.out.pn hk1 hE hltW (hW.out.fr.kb HROWB.out)
  | false =>
   have HST:Hid (lstVal D (valP D d) acc (valP D d j1)=r):=(by show _=_;rw [<- (lstS_other HFO.out (by omega) hoth.out acc).2];exact HR1.out);obtain ⟨rv,hrv⟩:∃ rv,valP D d j1=rv:=⟨_,rfl⟩;rw [hrv] at HST;have HRV:=qqh hrv;have hvno:Hid (rv ≠ .opn):=(by show _ ≠ _;intro e;apply HNO.out;rw [<- HST.out,e];rfl);have hlen:Hid ((ns++hdNds tNds tSize 6 ns.length acc).length=ns.length+(1+cSize tSize acc)):=(by show _=_;rw [qqa,hdNds_len chT]);clear hrv;go_wp2_with fail
   refine (HVAL.out A _ C bp j1 n2 c2 _ left ndx er _ nst (by exact hW.out.pn) (by rw [hlen.out];omega) HV2.out hd (by rw [HRV.out];exact hvno.out)).mono ?_;intro e w4 hpost;rw [HRV.out] at hpost;have HPost:=qqh hpost;clear hpost;cases rv with
   | opn => exact absurd rfl hvno.out
   | bad =>
    obtain ⟨v,nd5,N5,xs5,rfl,hE,hPI,hKB⟩:=HPost.out;have HKB:=qqh ((hW.out.fr.kb HROWB.out).trans hKB);have HRB:Hid (r=.bad):=(by show _=_;rw [<- HST.out];rfl);obtain ⟨bb,rfl⟩:=Err.ptr hE;have HE:=qqh hE;have HPI:=qqh hPI;clear hE hPI hKB;go_wp2_with fail
    go_ret3
    rw [HRB.out];exact ⟨_,_,_,_,rfl,HE.out,HPI.out,HKB.out⟩
   | good tv p =>
    rcases HPost.out with hok | ⟨herr,hctx⟩
    ·obtain ⟨a5,n5,c5,nd5,rfl,hvw5,hP5,hF5⟩:=hok;have hrg:=HFO.out.rg j1 tv p (by omega) HRV.out;have hszt:=HFO.out.sz j1 tv p (by omega) HRV.out;obtain ⟨t,ht⟩:∃ t,tv=t:=⟨_,rfl⟩;have HS:Hid (lstS D (valP D d) true p (acc++[t])=r):=(by show _=_;rw [<- HST.out,<- ht];rfl);rw [hlen.out] at hP5;rw [ht] at hP5 hszt;have hl5:Hid ((ns++hdNds tNds tSize 6 ns.length acc++tNds (ns.length+(1+cSize tSize acc)) 0 t).length=ns.length+(1+cSize tSize acc)+tSize t):=(by show _=_;rw [qqa,hlen.out,chT.len]);have happ:=app_law chT ns 6 acc t;have hsn:=lstH_snoc chT ns.length acc t;have hle:=lstH_le chT ns.length acc;have hpos:0<tSize t:=chT.pos t;obtain ⟨h,hh⟩:∃ h,(ns++hdNds tNds tSize 6 ns.length acc).length+1=h:=⟨_,rfl⟩;rw [hh];have hh':h=ns.length+(1+cSize tSize acc)+1:=(by rw [<- hh,hlen.out]);have hhb:h<=100000000:=(by omega);rw [<- hh',HH.out] at happ;rw [<- hh'] at hsn;have HAPP:=qqh happ;have HSN:=qqh hsn;have HW5:=qqh (hW.out.call hP5 hF5);have HVW5:=qqh hvw5;have hl6:=qql hvw5.len;have hl6':=qql hvw5.len.symm;have hcs:=cSize_snoc (s:=tSize) acc t;clear hP5 hF5 hvw5 hh hh' ht HPost happ hsn;go_wp2_with fail
     refine (app108_c D A C bp w.heap.size w1.heap.size (w1.heap.size+1) H (lstH tSize ns.length acc) h _ left nd5 er _ nst (by exact HW5.out.pn) (by rw [hl5.out];omega) (by exact HW5.out.h2) (by exact HW5.out.h7) (by exact HW5.out.h8) (by have:=HW5.out.g;have:=HW5.out.lt;omega) HW5.out.r8 (fun a ha e => by have:=HW5.out.ltA a ha;have:=HW5.out.g;omega) (by omega) (by rw [hl5.out];have:=HH.out;omega) (by rw [hl5.out];omega) (by omega)).mono ?_;rintro e w6 ⟨rfl,hP6,h86,hk6⟩;rw [HAPP.out] at hP6;have HW6:=qqh (HW5.out.app hP6 h86 hk6);clear hP6 h86 hk6;have HW2:Hid (AW D A C bp w nd left er nst w.heap.size w1.heap.size (w1.heap.size+1) H (lstH tSize ns.length (acc++[t])) (ns++hdNds tNds tSize 6 ns.length (acc++[t])) w6 nd5):=(by rw [HSN.out];exact HW6.out);have HVA:=HVW5;go_wp2_with fail
     go_roundw
     case rel => exact ⟨p,true,acc++[t],_,_,_,_,rfl,rfl,rfl,rfl,by omega,by omega,by rw [hcs];omega,HVA,HW2,HS⟩
     case measure => simp [slen];omega
    ·obtain ⟨v,nd5,N5,xs5,rfl,hE,hPI,hKB⟩:=herr;have HKB:=qqh ((hW.out.fr.kb HROWB.out).trans hKB);have HRB:Hid (r=.bad):=(by show _=_;rw [<- HST.out];exact lstS_ctx HFO.out (HFO.out.rg j1 tv p (by omega) HRV.out).2 hctx _);obtain ⟨bb,rfl⟩:=Err.ptr hE;have HE:=qqh hE;have HPI:=qqh hPI;clear hE hPI hKB;go_wp2_with fail
     go_ret3
     rw [HRB.out];exact ⟨_,_,_,_,rfl,HE.out,HPI.out,HKB.out⟩
theorem tab_c (D:Doc) (d:Nat) (hval:ValCI D d) (A a:Option Addr) (C bp k n c:Nat) (w:World) (left nd er:Value) (ns:List Nd) (nst:Nat) (hP:PN D A C bp w left nd ns er nst) (hB:ns.length+4 * (D.n - k)<=90000000) (hv:VW D A C k a n c)
  (hd:nst+d<=100) (hk:k<D.n) (hno:tabP D (valP D d) (k+1) ≠ .opn) :
  Calls Tryz.prog 100 #[.pointer (some ⟨bp,0,none⟩),.slice a n c] w (VlPost D A C bp w nd left er ns nst (tabP D (valP D d) (k+1))):=by
 have hs:=D.small;have hC1:=hP.doc.1;have hC2:=hP.doc.2.1;have hlt:=hP.ltB;have hln:=qql hv.len;have hln':=qql hv.len.symm;have hcp:=qql hv.cap;have hcp':=qql hv.cap.symm;have hA:=fun a ha => (hP.apartA a ha).2.2
 have hrow:=fun g hg => (hP.rowlt g hg).2
 obtain ⟨r,hr⟩:∃ r,tabP D (valP D d) (k+1)=r:=⟨_,rfl⟩;rw [hr] at hno ⊢;obtain ⟨a0,hva,hrun⟩:=VW.from_ hv hC1 1 1 rfl (by omega);have HP:=qqh hP;have HV:=qqh hv;have HR:Hid (tabS D (valP D d) false (k+1) [] r):=.inl ⟨hr,rfl⟩;have HNO:=qqh hno;have HVAL:=qqh hval;have HVA0:=qqh hva;have HA:=qqh hA;have HROW:=qqh hrow;have HROWB:Hid (∀ g,nd.ownBlock=some g->bp<g):=fun g hg => (HP.out.rowlt g hg).1
 have HFO:=qqh (fok D d);clear hP hv hr hno hval hva hA hrow;go_enter Tryz.func100,Tryz.ntmps100;obtain ⟨H,hH⟩:∃ H,ns.length+1=H:=⟨_,rfl⟩;have HH:=qqh hH;have hHb:1<=H/\H<=100000000:=by omega
 clear hH;go_upto_region 1 with fail;have c2:(w.alloc (.cells #[.pointer (some ⟨bp,0,none⟩)] 74)).cell? ⟨w.heap.size,0,none⟩=some (.pointer (some ⟨bp,0,none⟩)):=by rw [cell_new (by simp)];rfl
 have hP0:Hid (PN D A C bp (w.alloc (.cells #[.pointer (some ⟨bp,0,none⟩)] 74)) left nd ns er nst):=HP.out.nil ((Kp.refl Nil w).alloc _);have hrunt:=upto_ a n c 1 1 rfl (by omega);go_cut [7] (fun x wx => ∃ (b7:Nat) (nd1:Value),x=.pointer (some ⟨b7,0,none⟩)/\Hid (AW0 D A C bp w nd left er nst w.heap.size b7 H (ns++[(⟨7,[],0,0⟩:Nd)]) wx nd1))
 case first =>
  have hPd:=hP0.out.nil ((Kp.refl Nil _).drew);have hcd:(w.alloc (.cells #[.pointer (some ⟨bp,0,none⟩)] 74)).drew.cell? ⟨w.heap.size,0,none⟩=some (.pointer (some ⟨bp,0,none⟩)):=c2;have HPD:=qqh hPd;have HC5:Hid (∀ w5,Kp Nil (w.alloc (.cells #[.pointer (some ⟨bp,0,none⟩)] 74)).drew w5->w5.cell? ⟨w.heap.size,0,none⟩=some (.pointer (some ⟨bp,0,none⟩))):=fun w5 hk5 => (World.cell?_of_block (a:=⟨w.heap.size,0,none⟩) (hk5.block w.heap.size (by simp) (fun x => x))).trans hcd
  have HROW2:Hid (nd.ownBlock ≠ some w.heap.size):=fun e => by have:=HROW.out _ e;omega
  have hPd2:=hP0.out.nil (((Kp.refl Nil _).alloc (.cells #[.int .i32 0] 21)).drew);have HPD2:=qqh hPd2;have HC52:Hid (∀ w5,Kp Nil ((w.alloc (.cells #[.pointer (some ⟨bp,0,none⟩)] 74)).alloc (.cells #[.int .i32 0] 21)).drew w5->w5.cell? ⟨w.heap.size,0,none⟩=some (.pointer (some ⟨bp,0,none⟩))/\Blk w5 (w.heap.size+1) [.int .i32 0] 21):=fun w5 hk5 => by
   have hb:=((Blk.new w [.pointer (some ⟨bp,0,none⟩)] 74).alloc (.cells #[.int .i32 0] 21)).drew.kpNil hk5;have hb7:=(Blk.new (w.alloc (.cells #[.pointer (some ⟨bp,0,none⟩)] 74)) [.int .i32 0] 21).drew.kpNil hk5;refine ⟨hb.cell 0 rfl,?_⟩;simpa using hb7
  clear hPd hPd2
  go_region_law (first
   | (go_simp;go_at_call 57;refine (range_c D A a C k 1 c bp _ (by exact HPD.out.ltB) (by exact HPD.out.data) hC2 (by omega) (by omega) (by omega)).mono ?_;rintro e w5 ⟨⟨x,y,rfl⟩,hk5⟩;have hP5:=qqh (HPD.out.nil hk5);have hk5':=qqh hk5;have c5:=HC5.out w5 hk5;have c5a:=HC5.out _ (hk5.alloc (.cells #[.int .i32 0] 21));clear hk5)
   | (go_simp;go_at_call 57;refine (range_c D A a C k 1 c bp _ (by exact HPD2.out.ltB) (by exact HPD2.out.data) hC2 (by omega) (by omega) (by omega)).mono ?_;rintro e w5 ⟨⟨x,y,rfl⟩,hk5⟩;have hP5:=qqh (HPD2.out.nil hk5);have hk5':=qqh hk5;have c5:=(HC52.out w5 hk5).1;have HB75:=qqh (HC52.out w5 hk5).2;clear hk5)
   | (go_simp;go_at_call 56;have hq:=HB75;refine (push_n D A C bp _ left nd er ns nst (by exact hP5.out) (by omega) 7 x y (.slice none 0 0) (.pointer none) [] ⟨none,0,rfl,fun h => absurd rfl h⟩).mono ?_;rintro e w6 ⟨nd6,rfl,hP6,hF6⟩;have HP6:=qqh hP6;have HF6:=qqh hF6;have HB7:=qqh (Fr.blk hF6 HB75.out (by omega) (fun e => by have:=HROW.out _ e;omega));have b7c:=HB7.out.1.cell 0 rfl;have b7f:=HB7.out.1.free 0;clear hP6 hF6 hq)
   | (go_simp;go_at_call 56;refine (push_n D A C bp _ left nd er ns nst (by exact hP5.out) (by omega) 7 x y (.slice none 0 0) (.pointer none) [] ⟨none,0,rfl,fun h => absurd rfl h⟩).mono ?_;rintro e w6 ⟨nd6,rfl,hP6,hF6⟩;have HP6:=qqh hP6;have HF6:=qqh hF6;clear hP6 hF6)
   | (go_simp;go_at_call 56;have hX:=hP5.out.nil ((Kp.refl Nil w5).alloc (.cells #[.int .i32 0] 21));refine (push_n D A C bp _ left nd er ns nst (by exact hX) (by omega) 7 x y (.slice none 0 0) (.pointer none) [] ⟨none,0,rfl,fun h => absurd rfl h⟩).mono ?_;rintro e w6 ⟨nd6,rfl,hP6,hF6⟩;have HP6:=qqh hP6;have HF6:=qqh ((Fr.nil ((Kp.refl Nil w5).alloc (.cells #[.int .i32 0] 21))).trans hF6);have HB7:=qqh (Fr.blk hF6 (Blk.new w5 [.int .i32 0] 21) (by have:=hP5.out.ltB;omega) (fun e => by have:=(hP5.out.rowlt _ e).2;omega));have b7c:=HB7.out.1.cell 0 rfl;have b7f:=HB7.out.1.free 0;clear hP6 hF6 hX))
  all_goals
   go_wp2_with fail
   have hvv:Value.int .i32 ((ns.length:Int)+1)=.int .i32 (H:Nat):=(by have:=HH.out;rw [<- this];rfl);go_meet
   first
    | exact ⟨_,nd6,rfl,AW0.mkA hlt HA.out HROW.out (((Kp.refl Nil _).drew).trans hk5'.out) HF6.out HP6.out hvv⟩
    | exact ⟨_,nd6,rfl,AW0.mkB hlt HA.out HROW.out (((Kp.refl Nil _).drew).trans hk5'.out) HF6.out HP6.out hvv HB7.out (by have:=hk5'.out.size;simp at this;omega)⟩
    | exact ⟨_,nd6,rfl,AW0.mkB hlt HA.out HROW.out ((((Kp.refl Nil _).alloc _).drew).trans hk5'.out) HF6.out HP6.out hvv HB7.out (by omega)⟩
 case rest =>
  obtain ⟨b7,nd1,rfl,HZ⟩:=hcut;go_upto_region 5 with fail;have hZ:=qqh (HZ.out.box);obtain ⟨b8,hb8⟩:∃ b8,wc.heap.size=b8:=⟨_,rfl⟩;rw [hb8] at hZ ⊢;refine wp_gen (fun W => Hid (AW D A C bp w nd left er nst w.heap.size b7 b8 H 0 (ns++[(⟨7,[],0,0⟩:Nd)]) W nd1)) hZ ?_;intro W HW0;clear hZ HZ hb8 hP0 c2 hrunt;have hW0:Hid (AW D A C bp w nd left er nst w.heap.size b7 b8 H (lstH kvS ns.length []) (ns++hdNds kvT kvS 7 ns.length []) W nd1):=HW0.out;clear HW0;go_wp2_with fail
  go_loopw [1,10,11,12] (fun b x10 x11 x12 wr => ∃ (j:Nat) (av:Bool) (acc:List Tree) (a1:Option Addr) (n1 c1:Nat) (ndx:Value),b=.slice a1 n1 c1/\x10=.int .i32 0/\x11=.int .i32 0/\x12=.bool av/\k+1<=j/\j<=D.n/\cSize kvS acc<=j - (k+1)/\Hid (VW D A C j a1 n1 c1)/\Hid (AW D A C bp w nd left er nst w.heap.size b7 b8 H (lstH kvS ns.length acc) (ns++hdNds kvT kvS 7 ns.length acc) wr ndx)/\Hid (tabS D (valP D d) av j acc r)) (fun b _ _ _ _ => slen b)
  case atStart => exact ⟨k+1,false,[],_,_,_,_,rfl,rfl,rfl,rfl,qqr _,by omega,Nat.zero_le _,HVA0,hW0,HR⟩
  case round =>
   obtain ⟨j,av,acc,a1,n1,c1,ndx,rfl,rfl,rfl,rfl,hj1,hj2,hsz,hV,hW,HR⟩:=hrel;have hlj:=qql hV.out.len;have hlj':=qql hV.out.len.symm;go_wp2_with fail
   refine (skip_c D A a1 C j n1 c1 _ (by exact hW.out.pn.doc) hV.out).mono ?_;rintro e w2 ⟨hw2,a2,n2,c2,rfl,hv2⟩;obtain rfl:=hw2.symm;have hb3:=wsEnd_ge D j;have hb4:wsEnd D j<=D.n:=(by have:=wsEnd_le D j;omega);have HR1:Hid (tabS D (valP D d) av (wsEnd D j) acc r):=tabS_ws HR.out;have hws:Hid (noWs D (wsEnd D j)):=noWs_end D j;obtain ⟨j1,hj1'⟩:∃ j1,wsEnd D j=j1:=⟨_,rfl⟩;rw [hj1'] at hb3 hb4 hv2 HR1 hws;have HV2:=qqh hv2;have hl2:=qql hv2.len;have hl2':=qql hv2.len.symm;have hc2:=qql hv2.cap;have hc2':=qql hv2.cap.symm;have hltW:=hW.out.pn.ltB;have hx2:=hW.out.h2.cell 0 rfl;have hx7:=hW.out.h7.cell 0 rfl;have hx0:=hW.out.pn.choose_spec.1.blk.cell 0 rfl;clear hj1' hv2 HR hV;rcases Nat.eq_zero_or_pos n2 with h0 | h0
   ·have HRB:Hid (r=.bad):=by
      show _=_;cases av with
      | true => exact tabS_aft HR1.out hws.out (by have:=D.out j1 (by omega);omega) (by have:=D.out j1 (by omega);unfold latB;omega)
      | false => exact tabS_nokey HFO.out HR1.out hws.out (.inl (D.out j1 (by omega)))
    obtain rfl:=h0;go_wp2_with fail
    refine (newErr_c _ _ _ _ _ (by omega)).mono ?_;rintro e w4 ⟨⟨v,rfl,hE⟩,hk1⟩;go_wp2_with fail
    go_ret3
    rw [HRB.out];exact PN.errH hW.out.pn hk1 hE hltW (hW.out.fr.kb HROWB.out)
   obtain ⟨bd,q,rfl,hb⟩:=HV2.out.bytes hW.out.pn.doc (by omega);have HB:=qqh hb;have b0:=hb 0 (by omega);simp only [Nat.add_zero] at b0;clear hb;by_cases h125:D.c j1=125
   ·have e125:((D.c j1:Int) == 125)=true:=(by rw [beq_iff_eq];omega);have HRG:Hid (r=.good (.mk 9 [] acc []) (j1+1)):=tabS_close HR1.out hws.out h125;obtain ⟨a3,hva,hrun3⟩:=VW.from_ HV2.out hC1 1 1 rfl (by omega);have HVA:=qqh hva;clear h125 hva;go_wp2_with fail
    go_quiet (fail)
    go_wp2_with fail
    go_ret3
    rw [HRG.out];have hp:=hW.out.pn;rw [hd_table ns.length acc []] at hp;exact .inl ⟨_,_,_,_,ret_key HH.out.symm,HVA.out,hp.nil ((Kp.refl Nil wr).drewN _),hW.out.fr.trans (Fr.nil ((Kp.refl Nil wr).drewN _))⟩
   have e125:((D.c j1:Int) == 125)=false:=qqn (by omega);have hnl:¬ latB D j1:=fun h => HNO.out (tabS_lat HR1.out hws.out h)
   have hnl':D.c j1 ≠ 10/\D.c j1 ≠ 13/\D.c j1 ≠ 35:=(by unfold latB at hnl;omega);have e10:((D.c j1:Int) == 10)=false:=qqn (by omega);have e13:((D.c j1:Int) == 13)=false:=qqn (by omega);have e35:((D.c j1:Int) == 35)=false:=qqn (by omega);by_cases h44:D.c j1=44
   ·have e44:((D.c j1:Int) == 44)=true:=(by rw [beq_iff_eq];omega);cases av with
    | true =>
     have HS:Hid (tabS D (valP D d) false (j1+1) acc r):=tabS_comma HR1.out hws.out h44 HNO.out;obtain ⟨a3,hva,hrun3⟩:=VW.from_ HV2.out hC1 1 1 rfl (by omega);have HVA:=qqh hva;have HW2:=hW;clear h44 hva;go_wp2_with fail
     go_roundw
     case rel => exact ⟨j1+1,false,acc,_,_,_,_,rfl,rfl,rfl,rfl,by omega,by omega,by omega,HVA,HW2,HS⟩
     case measure => simp [slen];omega
    | false =>
     have HRB:Hid (r=.bad):=tabS_nokey HFO.out HR1.out hws.out (.inr h44);have hrunt:=upto_ (some ⟨bd,q,none⟩) n2 c2 1 1 rfl (by omega);clear h44;go_wp2_with fail
     refine (newErr_c _ _ _ _ _ (by omega)).mono ?_;rintro e w4 ⟨⟨v,rfl,hE⟩,hk1⟩;go_wp2_with fail
     go_ret3
     rw [HRB.out];exact PN.errH hW.out.pn hk1 hE hltW (hW.out.fr.kb HROWB.out)
   have e44:((D.c j1:Int) == 44)=false:=qqn (by omega);have hoth:Hid (D.c j1 ≠ 125/\¬ latB D j1/\D.c j1 ≠ 44):=(by exact ⟨h125,hnl,h44⟩);clear h125 hnl hnl' h44;cases av with
   | true =>
    have HRB:Hid (r=.bad):=tabS_aft HR1.out hws.out ⟨hoth.out.2.2,hoth.out.1⟩ hoth.out.2.1;have hrunt:=upto_ (some ⟨bd,q,none⟩) n2 c2 1 1 rfl (by omega);go_wp2_with fail
    refine (newErr_c _ _ _ _ _ (by omega)).mono ?_;rintro e w4 ⟨⟨v,rfl,hE⟩,hk1⟩;go_wp2_with fail
    go_ret3
    rw [HRB.out];exact PN.errH hW.out.pn hk1 hE hltW (hW.out.fr.kb HROWB.out)
   | false =>
    have HST:Hid (tabVal D (valP D d) acc (kvR2 D (valP D d) j1)=r):=(tabS_key HFO.out HR1.out hws.out hoth.out.1 hoth.out.2.1).symm;obtain ⟨rv,hrv⟩:∃ rv,kvR2 D (valP D d) j1=rv:=⟨_,rfl⟩;rw [hrv] at HST;have HRV:=qqh hrv;have hvno:Hid (rv ≠ .opn):=(by show _ ≠ _;intro e;apply HNO.out;rw [<- HST.out,e];rfl);have hlen:Hid ((ns++hdNds kvT kvS 7 ns.length acc).length=ns.length+(1+cSize kvS acc)):=(by show _=_;rw [qqa,hdNds_len chB]);clear hrv;go_wp2_with fail
    refine (kv_c D d HVAL.out A _ C bp j1 n2 c2 _ left ndx er _ nst (by exact hW.out.pn) (by rw [hlen.out];omega) HV2.out hd hws.out (by rw [HRV.out];exact hvno.out)).mono ?_;intro e w4 hpost;rw [HRV.out] at hpost;have HPost:=qqh hpost;clear hpost;cases rv with
    | opn => exact absurd rfl hvno.out
    | bad =>
     obtain ⟨v,nd5,N5,xs5,rfl,hE,hPI,hKB⟩:=HPost.out;have HKB:=qqh ((hW.out.fr.kb HROWB.out).trans hKB);have HRB:Hid (r=.bad):=(by show _=_;rw [<- HST.out];rfl);obtain ⟨bb,rfl⟩:=Err.ptr hE;have HE:=qqh hE;have HPI:=qqh hPI;clear hE hPI hKB;go_wp2_with fail
     go_ret3
     rw [HRB.out];exact ⟨_,_,_,_,rfl,HE.out,HPI.out,HKB.out⟩
    | good tv p =>
     rcases HPost.out with hok | ⟨herr,hctx⟩
     ·obtain ⟨a5,n5,c5,nd5,rfl,hvw5,hP5,hF5⟩:=hok;have hrg3:=kvR2_sz HFO.out HRV.out;have hrg:j1<p/\p<=D.n:=⟨hrg3.1,hrg3.2.1⟩;have hszt:1+tv.1.length+tSize tv.2<=p - j1:=hrg3.2.2;obtain ⟨t,ht⟩:∃ t,tv.2.under tv.1=t:=⟨_,rfl⟩;have HS:Hid (tabS D (valP D d) true p (acc++[t]) r):=(by rw [<- ht];exact HST.out);rw [hlen.out] at hP5;have hkt:kvNds (ns.length+(1+cSize kvS acc)) 0 tv.1 tv.2=kvT (ns.length+(1+cSize kvS acc)) 0 t:=(by rw [<- ht];unfold kvT kvNds;rw [Tree.keys_under,tNds_under]);have hst:kvS t=1+tv.1.length+tSize tv.2:=(by rw [<- ht];unfold kvS;rw [Tree.keys_under,tSize_under]);rw [hkt] at hP5;rw [<- hst] at hszt;have hl5:Hid ((ns++hdNds kvT kvS 7 ns.length acc++kvT (ns.length+(1+cSize kvS acc)) 0 t).length=ns.length+(1+cSize kvS acc)+kvS t):=(by show _=_;rw [qqa,hlen.out,chB.len]);have happ:=app_law chB ns 7 acc t;have hsn:=lstH_snoc chB ns.length acc t;have hle:=lstH_le chB ns.length acc;have hpos:0<kvS t:=chB.pos t;obtain ⟨h,hh⟩:∃ h,(ns++hdNds kvT kvS 7 ns.length acc).length+1=h:=⟨_,rfl⟩;rw [hh];have hh':h=ns.length+(1+cSize kvS acc)+1:=(by rw [<- hh,hlen.out]);have hhb:h<=100000000:=(by omega);rw [<- hh',HH.out] at happ;rw [<- hh'] at hsn;have HAPP:=qqh happ;have HSN:=qqh hsn;have HW5:=qqh (hW.out.call hP5 hF5);have HVW5:=qqh hvw5;have hl6:=qql hvw5.len;have hl6':=qql hvw5.len.symm;have hcs:=cSize_snoc (s:=kvS) acc t;clear hP5 hF5 hvw5 hh hh' ht HPost happ hsn;go_wp2_with fail
      refine (app109_c D A C bp w.heap.size b7 b8 H (lstH kvS ns.length acc) h _ left nd5 er _ nst (by exact HW5.out.pn) (by rw [hl5.out];omega) (by exact HW5.out.h2) (by exact HW5.out.h7) (by exact HW5.out.h8) (by have:=HW5.out.g;have:=HW5.out.lt;omega) HW5.out.r8 (fun a ha e => by have:=HW5.out.ltA a ha;have:=HW5.out.g;omega) (by omega) (by rw [hl5.out];have:=HH.out;omega) (by rw [hl5.out];omega) (by omega)).mono ?_;rintro e w6 ⟨rfl,hP6,h86,hk6⟩;rw [HAPP.out] at hP6;have HW6:=qqh (HW5.out.app hP6 h86 hk6);clear hP6 h86 hk6;have HW2:Hid (AW D A C bp w nd left er nst w.heap.size b7 b8 H (lstH kvS ns.length (acc++[t])) (ns++hdNds kvT kvS 7 ns.length (acc++[t])) w6 nd5):=(by rw [HSN.out];exact HW6.out);have HVA:=HVW5;go_wp2_with fail
      go_roundw
      case rel => exact ⟨p,true,acc++[t],_,_,_,_,rfl,rfl,rfl,rfl,by omega,by omega,by rw [hcs];omega,HVA,HW2,HS⟩
      case measure => simp [slen];omega
     ·obtain ⟨v,nd5,N5,xs5,rfl,hE,hPI,hKB⟩:=herr;have HKB:=qqh ((hW.out.fr.kb HROWB.out).trans hKB);have HRB:Hid (r=.bad):=(by show _=_;rw [<- HST.out];exact tabS_ctx (r:=tabAft D (valP D d) p _) (by exact rfl) hctx);obtain ⟨bb,rfl⟩:=Err.ptr hE;have HE:=qqh hE;have HPI:=qqh hPI;clear hE hPI hKB;go_wp2_with fail
      go_ret3
      rw [HRB.out];exact ⟨_,_,_,_,rfl,HE.out,HPI.out,HKB.out⟩
end Go.Proofs.YtpgmddjgcgpoeaaGreat
