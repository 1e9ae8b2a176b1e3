/-
  A part of the proof.
-/
import Derived.Test.YtpgmddjgcgpoeaaGreatD30
import Derived.Test.YtpgmddjgcgpoeaaGreatD37
import Derived.Test.YtpgmddjgcgpoeaaGreatD29
import Derived.Test.YtpgmddjgcgpoeaaGreatD35
import Derived.Test.YtpgmddjgcgpoeaaGreatD13
import Derived.BigQuiet
set_option linter.unusedVariables false
set_option linter.unusedSimpArgs false
set_option maxRecDepth 100000
set_option maxHeartbeats 8000000
namespace Go.Proofs.YtpgmddjgcgpoeaaGreat
open Go.RowKit
theorem lSize_len:∀ (ts:List Tree),ts.length<=lSize ts
 | [] => by rw [lSize];exact qqr _
 | t :: ts => by rw [lSize,List.length_cons];have:=lSize_len ts;have:=tSize_pos t;omega
theorem bSize_len:∀ (ts:List Tree),ts.length<=bSize ts/\∀ t ∈ ts,t.keys.length<=bSize ts
 | [] => by rw [bSize];exact ⟨qqr _,fun t h => by cases h⟩
 | t :: ts => by
  rw [bSize,List.length_cons];have h:=bSize_len ts;refine ⟨by omega,fun u hu => ?_⟩;rcases List.mem_cons.1 hu with rfl | hu
  ·omega
  ·have:=h.2 u hu;omega
section
variable (D:Doc) (A:Option Addr) (C bp:Nat) (left nd er:Value) (ns:List Nd) (nst g:Nat)
mutual
theorem nodeT:∀ (t:Tree),tSize t<=100000000->NodeC D A C bp left nd er ns nst g t
 | .mk K l items ks,h => by
  rw [tSize] at h;intro w i nx hR hs hwf;have hw:=Wf.iff.1 hwf;by_cases h8:K=8
  ·subst h8;rw [if_pos rfl] at h;obtain ⟨rfl,hwl⟩:=hw.2.1 rfl;have hl:=lSize_len items;exact node_arr D A C bp left nd er ns nst g items ks (nodeL items (by omega)) (by omega) (fun t ht => by rw [(WfL.mem hwl ht).2];simp) w i nx hR hs hwf
  rw [if_neg h8] at h;by_cases h9:K=9
  ·subst h9;rw [if_pos rfl] at h;obtain ⟨rfl,hwl⟩:=hw.2.2.1 rfl;have hl:=bSize_len items;exact node_tab D A C bp left nd er ns nst g items ks (nodeB items (by omega)) (by omega) (fun t ht => by have:=hl.2 t ht;omega) w i nx hR hs hwf
  ·have hi:=hw.2.2.2 h8 h9;subst hi;exact node_leaf D A C bp left nd er ns nst g K l ks (by have:=hw.1;omega) w i nx hR hs hwf
theorem nodeL:∀ (ts:List Tree),lSize ts<=100000000->∀ t ∈ ts,NodeC D A C bp left nd er ns nst g t
 | [],_,t,ht => by cases ht
 | u :: us,h,t,ht => by
  rw [lSize] at h;rcases List.mem_cons.1 ht with e | ht
  ·rw [e];exact nodeT u (by omega)
  ·exact nodeL us (by omega) t ht
theorem nodeB:∀ (ts:List Tree),bSize ts<=100000000->∀ t ∈ ts,NodeC D A C bp left nd er ns nst g t
 | [],_,t,ht => by cases ht
 | u :: us,h,t,ht => by
  rw [bSize] at h;rcases List.mem_cons.1 ht with e | ht
  ·rw [e];exact nodeT u (by omega)
  ·exact nodeB us (by omega) t ht
end
end
structure ExOk (x:Ex):Prop where
 kind:x.kind<=2
 keys:x.keys ≠ []
 wf:x.kind=0->Wf x.val/\x.val.keys=[]
 size:x.keys.length+tSize x.val<=50000000
 zero:x.kind ≠ 0->x.val=.zero
theorem lnP_ok {D:Doc} (hB:D.n<=1000000) {k p:Nat} {x:Ex} (h:lnP D k=.good (some x) p):ExOk x:=by
 unfold lnP at h;have htbl:∀ m k1,1<=m->m<=2->tblP D k m=.good (some x) k1->ExOk x:=by
  intro m k1 h1 h2 ht;unfold tblP at ht;cases hkr:keyP D (k+m) with
  | good ks k2 =>
   rw [hkr] at ht;dsimp only at ht;split at ht
   ·injection ht with e1 e2;injection e1 with e1;subst e1;have h3:=keyRun_cnt D _ _ k2 [] ks rfl hkr;have h4:=keyP_ge D _ k2 ks hkr;simp only [List.length_nil,Nat.zero_add] at h3;refine ⟨h2,keyRun_ne D _ _ k2 [] ks rfl hkr,fun h => ?_,?_,fun _ => rfl⟩
    ·have h:m=0:=h;omega
    ·show ks.length+tSize (.mk 0 [] [] [])<=_;rw [tSize_mk,if_neg (by omega),if_neg (by omega)];omega
   ·cases ht
  | bad => rw [hkr] at ht;cases ht
  | opn => rw [hkr] at ht;cases ht
 cases hh:headP D k with
 | good o k1 =>
  rw [hh] at h;dsimp only at h;cases ht:tailP D k1 with
  | good u k2 =>
   rw [ht] at h;injection h with e1 e2;subst e1;unfold headP at hh;split at hh
   ·split at hh
    ·exact htbl 2 k1 (by omega) (by omega) hh
    ·exact htbl 1 k1 (by omega) (by omega) hh
   split at hh
   ·rw [kvP_eq] at hh;cases hx:kvR2 D (valP D 51) k with
    | good y q =>
     rw [hx] at hh;dsimp only at hh;injection hh with e1 e3;injection e1 with e1;have h1:=kvR2_sz (fok D 51) hx;have h2:=kvR2_wf (fwf D 51) hx;subst e1;exact ⟨by show 0<=2;omega,h2.2.2,fun _ => ⟨h2.1,h2.2.1⟩,by show y.1.length+tSize y.2<=_;omega,fun h => absurd rfl h⟩
    | bad => rw [hx] at hh;cases hh
    | opn => rw [hx] at hh;cases hh
   ·cases hh
  | bad => rw [ht] at h;cases h
  | opn => rw [ht] at h;cases h
 | bad => rw [hh] at h;cases h
 | opn => rw [hh] at h;cases h
theorem exNds_len (x:Ex):(exNds 0 x).length=if x.kind=0 then 1+x.keys.length+tSize x.val else 1+x.keys.length:=by
 unfold exNds;split
 ·rw [kvNds_len]
 ·unfold hNds;rw [List.length_cons,keyNds_len];omega
theorem exNds_good {x:Ex} (h:ExOk x):GoodN (exNds 0 x):=by
 have hl:=exNds_len x;have hs:=h.size;have hp:=tSize_pos x.val;have hk:0<x.keys.length:=List.length_pos_iff.2 h.keys;have hall:∀ n ∈ exNds 0 x,n.kind ≠ 0/\n.next<=(exNds 0 x).length/\n.child<=(exNds 0 x).length:=by
  intro n hn;rw [hl];unfold exNds at hn;by_cases h0:x.kind=0
  ·rw [if_pos h0] at hn ⊢;unfold kvNds at hn;rcases List.mem_cons.1 hn with rfl | hn
   ·exact ⟨by simp,Nat.zero_le _,by show 0+x.keys.length+2<=_;omega⟩
   ·rcases List.mem_append.1 hn with hn | hn
    ·exact keyNds_ok x.keys _ _ (by omega) n hn
    ·exact tNds_ok x.val _ _ _ (by omega) (by omega) n hn
  ·rw [if_neg h0] at hn ⊢;unfold hNds at hn;rcases List.mem_cons.1 hn with rfl | hn
   ·exact ⟨by simp,Nat.zero_le _,by show 0+2<=_;omega⟩
   ·exact keyNds_ok x.keys _ _ (by omega) n hn
 refine ⟨by rw [hl];split <;> omega,fun n hn => (hall n hn).1,fun n hn => (hall n hn).2.1,fun n hn => (hall n hn).2.2⟩
theorem SegN.self (ns:List Nd):SegN ns 0 ns:=fun i n h => by rw [Nat.zero_add];exact h
theorem ekeys_c (D:Doc) (A:Option Addr) (C bp:Nat) (w:World) (left nd er:Value) (x:Ex) (nst g:Nat) (hx:ExOk x) (hR:RC D A C bp left nd er (exNds 0 x) nst g w) :
  Calls Tryz.prog 31 #[.pointer (some ⟨g,0,none⟩)] w fun e w' => ∃ v,e=.returned v/\OwnS w' w.heap.size v x.keys/\Kp Nil w w':=by
 have hl:=exNds_len x;have hs:=hx.size;have hseg:=SegN.self (exNds 0 x);have hk:0<x.keys.length:=List.length_pos_iff.2 hx.keys;have hne:x.keys.isEmpty=false:=by cases hkk:x.keys with | nil => exact absurd hkk hx.keys | cons a b => rfl
 have hgd:=hR.gd;by_cases h0:x.kind=0
 ·have he:exNds 0 x=kvNds 0 0 x.keys x.val:=by unfold exNds;rw [if_pos h0]
  rw [if_pos h0] at hl;obtain ⟨nv,msv,hhv,hnv,_⟩:=tNds_head (0+1+x.keys.length) (0+2) x.val;have hs0:SegN (exNds 0 x) 0 (kvNds 0 0 x.keys x.val):=by rw [<- he];exact hseg
  have hn0:(exNds 0 x)[0]?=some ⟨5,[],0,0+x.keys.length+2⟩:=SegN.head hs0;have hsk:SegN (exNds 0 x) (0+1) (keyNds (0+1) x.keys):=SegN.left (SegN.tail hs0);have hsv:=SegN.right (SegN.tail hs0);rw [keyNds_len,hhv] at hsv;have hnvv:=SegN.head hsv;have hkc:KC (exNds 0 x) nv.next x.keys:=by
   have:=KC.of_seg x.keys (exNds 0 x) (0+1) hsk;rw [hne] at this;rw [hnv];exact this
  have hnvn:nv.next<=(exNds 0 x).length:=hgd.next nv (List.mem_of_getElem? hnvv);exact keys31_c D A C bp w left nd er (exNds 0 x) nst g 0 nv.next x.keys hR (keyV_c D A C bp w left nd er (exNds 0 x) nst g 0 (0+1+x.keys.length) _ nv hR.pn hR.hg hn0 rfl (by show 0+x.keys.length+2=_;omega) hnvv hnvn (by have:=hgd.len;omega) hgd.kind) hnvn hkc (by omega)
 ·have he:exNds 0 x=hNds (x.kind+2) 0 x.keys:=by unfold exNds;rw [if_neg h0]
  rw [if_neg h0] at hl;have hs0:SegN (exNds 0 x) 0 (hNds (x.kind+2) 0 x.keys):=by rw [<- he];exact hseg
  have hn0:(exNds 0 x)[0]?=some ⟨x.kind+2,[],0,0+2⟩:=SegN.head hs0;have hsk:SegN (exNds 0 x) (0+1) (keyNds (0+1) x.keys):=SegN.tail hs0;have hkc:KC (exNds 0 x) 2 x.keys:=by
   have:=KC.of_seg x.keys (exNds 0 x) (0+1) hsk;rw [hne] at this;exact this
  have hkd:=hx.kind;exact keys31_c D A C bp w left nd er (exNds 0 x) nst g 0 2 x.keys hR (keyT_c D A C bp w left nd er (exNds 0 x) nst g 0 _ hR.pn hR.hg hn0 (by show x.kind+2=3\/x.kind+2=4;omega) (by show 2<=_;omega) (by have:=hgd.len;omega)) (by omega) hkc (by omega)
def Doc.bytes (D:Doc):List UInt8:=(List.range D.n).map fun i => UInt8.ofNat (D.c i)
theorem Doc.bytes_len (D:Doc):D.bytes.length=D.n:=by simp [Doc.bytes]
theorem Doc.bytes_get (D:Doc) (i:Nat) (h:i<D.bytes.length):(D.bytes[i]).toNat=D.c i:=by
 have e:D.bytes[i]?=some (UInt8.ofNat (D.c i)):=by
  have hn:i<D.n:=by rw [<- Doc.bytes_len];exact h
  unfold Doc.bytes;rw [List.getElem?_map,List.getElem?_range hn];rfl
 rw [List.getElem?_eq_getElem h] at e;injection e with e;rw [e];exact Doc.toNat_ofNat D i
def ClonePost (D:Doc) (w:World) (e:Ending) (w':World):Prop :=
 Kp Nil w w'/\∃ A' C',e=.returned (.slice A' D.n C')/\DocAt D A' C' w'/\∀ a,A'=some a->w.heap.size<=a.block/\a.block<w'.heap.size
theorem clone_own {D:Doc} {w w':World} {v:Value} {base:Nat} (hb:w.heap.size<=base) (h:OwnB w' base v D.bytes) (k:Kp Nil w w'):ClonePost D w (.returned v) w':=by
 refine ⟨k,?_⟩;have hl:=h.lt;rcases h.2 with ⟨rfl,hn⟩ | ⟨g,cap,cur,rfl,hb',hg,h1,h2,h3,h4⟩
 ·rw [Doc.bytes_len] at hn;exact ⟨none,0,by rw [hn],⟨by omega,by omega,.inl hn⟩,fun a ha => by cases ha⟩
 ·rw [Doc.bytes_len] at h1 h4;refine ⟨some ⟨g,0,none⟩,cap,by rw [Doc.bytes_len],⟨h1,by unfold maxLen at h2;omega,.inr ⟨g,0,rfl,(hl g rfl).2,fun i hi => ?_⟩⟩,fun a ha => by cases ha;exact ⟨by show w.heap.size<=g;omega,(hl g rfl).2⟩⟩;have hR:=Rd.own (A:=none) h;obtain ⟨a,c,e,hx⟩:=hR;have hlen:=D.bytes_len;obtain ⟨b,o,rfl,_,_,hc⟩:=hx (by intro e;rw [e] at hlen;simp at hlen;omega);injection e with e1 e2 e3;injection e1 with e1;injection e1 with e1 e4;subst e1 e4;have:=hc i (by omega);rw [Doc.bytes_get] at this;exact this
theorem clone_c (D:Doc) (A:Option Addr) (C:Nat) (w:World) (hd:DocAt D A C w):Calls Tryz.prog 28 #[.slice A D.n C] w (ClonePost D w):=by
 have hs:=D.small;have hlen:=D.bytes_len;cases A with
 | none =>
  have h0:D.n=0:=by obtain ⟨_,_,h | ⟨_,_,h,_⟩⟩:=hd;exact h;cases h
  have H0:=qqh h0;have q22:∀ (w:World) (a:Option Addr) (n c n' c':Nat),(binOp .eql 22 (.slice a n c) (.slice none n' c')).run Tryz.prog w=.ok (.bool a.isNone) w:=fun w a n c n' c' => Lib.run_eql_slice_nil w _ _ a n c n' c' Tryz.underlying22
  clear hd hlen hs h0;go_enter Tryz.func28,Tryz.ntmps28;go_wp2_with fail
  go_ret;exact ⟨Kp.refl _ _,none,0,by rw [H0.out];rfl,⟨by rw [H0.out];exact qqr _,by omega,.inl H0.out⟩,fun a ha => by cases ha⟩
 | some a =>
  have hb:∀ (w1:World),w1.heap.size=w1.heap.size:=fun _ => rfl
  obtain ⟨i5,hi,hz0,hz1,hz2⟩:=info_parts info5;have q22:∀ (w:World) (a:Option Addr) (n c n' c':Nat),(binOp .eql 22 (.slice a n c) (.slice none n' c')).run Tryz.prog w=.ok (.bool a.isNone) w:=fun w a n c n' c' => Lib.run_eql_slice_nil w _ _ a n c n' c' Tryz.underlying22
  have HD:=qqh hd;clear hd hb;go_enter Tryz.func28,Tryz.ntmps28;go_wp2_with (at_builtin;refine wpList_append_own _ rfl _ _ 22 rfl w.heap.size 5 i5 (.int .u8 0) 1 1 Tryz.underlying22 hi hz0 hz1 hz2 rfl (by decide) _ _ _ rfl (World.ownsRow_made w #[] 0 (qqr _) (Nat.zero_le _) rfl) a D.n C (bcells D.bytes) rfl ?qc1 ?qc2 (bcells_one _) ?qc4 ?qc5 ?qc6 ?_)
  case qc1 => rw [bcells_length,hlen];omega
  case qc2 =>
   intro j u hj;have hj':j<D.bytes.length:=by
    have:=(List.getElem?_eq_some_iff.1 hj).1;rw [bcells_length] at this;exact this
   obtain ⟨_,_,h | ⟨bd,o,e,_,hc⟩⟩:=HD.out
   ·omega
   ·cases e;rw [Addr.add_lit];refine Lib.cell?_alloc_some _ ?_;rw [hc j (by omega)];rw [<- Doc.bytes_get D j hj'];simp only [bcells,List.getElem?_map,List.getElem?_eq_getElem hj',Option.map_some] at hj;exact hj
  case qc4 => unfold maxLen;omega
  case qc5 => omega
  case qc6 => simp
  intro v' w1 hown hgrow hnil;go_wp2_with fail
  go_ret;refine clone_own (qqr _) (v:=v') ?_ (Kp.grown ((Kp.refl _ _).alloc _) hgrow (by intro k hk;simp [Value.ownBlock] at hk;omega));unfold OwnB;rw [hlen];simpa using hown
def RpX (w:World) (base:Nat) (S:Nat->Prop):List Ex->List Value->Prop
 | [],xs => xs=[]
 | e :: es,xs => ∃ vk vcs rest,xs=.int .i64 (e.kind:Nat) :: vk :: (vcs++rest)/\OwnS w base vk e.keys/\(∀ g,vk.ownBlock=some g->S g)/\RpT w base S e.val vcs/\RpX w base S es rest
theorem RpX.leave {w w':World} {base base':Nat} {S S':Nat->Prop} (hS:∀ b,S b->base<=b->S' b/\(b<w.heap.size->w'.heap[b]?=w.heap[b]?)) (hb:base'<=base):∀ (es:List Ex) (xs:List Value),RpX w base S es xs->RpX w' base' S' es xs
 | [],_,h => h
 | e :: es,xs,h => by
  obtain ⟨vk,vcs,rest,hx,h4,h5,h6,h7⟩:=h;refine ⟨vk,vcs,rest,hx,?_,fun g hg => (hS g (h5 g hg) (World.ownsRow.lt h4 g hg).1).1,RpT.leave hS hb _ _ h6,RpX.leave hS hb es rest h7⟩;refine own_mono (base:=base) ⟨h4.1,?_⟩ hb;rcases h4.2 with hn | ⟨g,cap,cur,rfl,hb',hg,r⟩
  ·exact .inl hn
  ·exact .inr ⟨g,cap,cur,rfl,hb',by rw [(hS g (h5 g rfl) hb').2 (Array.getElem?_eq_some_iff.1 hg).1];exact hg,r⟩
theorem RpX.append {w:World} {base:Nat} {S:Nat->Prop}:∀ (es fs:List Ex) (xs ys:List Value),RpX w base S es xs->RpX w base S fs ys->RpX w base S (es++fs) (xs++ys)
 | [],fs,xs,ys,h,h' => by have h:xs=[]:=h;subst h;exact h'
 | e :: es,fs,xs,ys,h,h' => by
  obtain ⟨vk,vcs,rest,rfl,h4,h5,h6,h7⟩:=h;exact ⟨vk,vcs,rest++ys,by simp,h4,h5,h6,RpX.append es fs rest ys h7 h'⟩
theorem RpX.there {w:World} {base:Nat} {S:Nat->Prop}:∀ (es:List Ex) (xs:List Value),RpX w base S es xs->RpX w base (fun b => S b/\b<w.heap.size) es xs
 | [],_,h => h
 | e :: es,xs,h => by
  obtain ⟨vk,vcs,rest,hx,h4,h5,h6,h7⟩:=h;exact ⟨vk,vcs,rest,hx,h4,fun g hg => ⟨h5 g hg,(World.ownsRow.lt h4 g hg).2⟩,RpT.there _ _ h6,RpX.there es rest h7⟩
theorem RpX.one {w:World} {base:Nat} {S:Nat->Prop} {e:Ex} {vk:Value} {vcs:List Value} (h4:OwnS w base vk e.keys) (h5:∀ g,vk.ownBlock=some g->S g) (h6:RpT w base S e.val vcs) :
  RpX w base S [e] (.int .i64 (e.kind:Nat) :: vk :: vcs):=⟨vk,vcs,[],by simp,h4,h5,h6,rfl⟩
structure XI (D:Doc) (A:Option Addr) (C:Nat) (w0:World) (v:Value) (n:Nat) (xs:List Value) (es:List Ex) (left nd:Value) (N:Nat) (ys:List Value) (w:World):Prop where
 pi:PI D A C w0.heap.size w left nd N ys .nilIface 0
 kp:Kp Nil w0 w
 own:w.ownsRow (w0.heap.size+1) 83 6 v n xs
 rep:RpX w (w0.heap.size+1) (fun b => v.ownBlock ≠ some b/\nd.ownBlock ≠ some b) es xs
 ne:∀ g,v.ownBlock=some g->nd.ownBlock ≠ some g/\∀ a,A=some a->a.block ≠ g
section
variable {D:Doc} {A:Option Addr} {C:Nat} {w0 w w':World} {v:Value} {n:Nat} {xs:List Value} {es:List Ex} {left nd:Value} {N:Nat} {ys:List Value}
theorem XI.next {left' nd':Value} {N':Nat} {ys':List Value} (h:XI D A C w0 v n xs es left nd N ys w) (hp:PI D A C w0.heap.size w' left' nd' N' ys' .nilIface 0) (f:Fr w0.heap.size w nd w' nd'):XI D A C w0 v n xs es left' nd' N' ys' w':=by
 have hv:=h.own.lt;have hn:=h.pi.own.lt;have hx:∀ g,v.ownBlock=some g->nd'.ownBlock ≠ some g:=fun g hg e => by
  rcases f.2 with h1 | h1
  ·exact (h.ne g hg).1 (h1 ▸ e)
  ·have:=h1 g e;have:=(hv g hg).2;omega
 refine ⟨hp,h.kp.then f.1 (fun i hi => .inr ?_),own_kp h.own f.1 (fun g hg hS => ?_),?_,fun g hg => ⟨hx g hg,(h.ne g hg).2⟩⟩
 ·rcases hi with rfl | hi
  ·exact qqr _
  ·have:=(hn i hi.symm).1;omega
 ·rcases hS with rfl | hS
  ·have:=(hv _ hg).1;omega
  ·exact (h.ne g hg).1 hS.symm
 ·have hy:∀ b,((v.ownBlock ≠ some b/\nd.ownBlock ≠ some b)/\b<w.heap.size)->w0.heap.size+1<=b->(v.ownBlock ≠ some b/\nd'.ownBlock ≠ some b)/\(b<w.heap.size->w'.heap[b]?=w.heap[b]?):=by
   intro b hb h2;refine ⟨⟨hb.1.1,fun e => ?_⟩,fun hl => f.1.block b hl (fun hS => ?_)⟩
   ·rcases f.2 with h1 | h1
    ·exact hb.1.2 (h1 ▸ e)
    ·have:=h1 b e;have:=hb.2;omega
   ·rcases hS with rfl | hS
    ·omega
    ·exact hb.1.2 hS.symm
  exact RpX.leave hy (qqr _) es xs (RpX.there es xs h.rep)
theorem XI.nil (h:XI D A C w0 v n xs es left nd N ys w) (k:Kp Nil w w'):XI D A C w0 v n xs es left nd N ys w' :=
 ⟨h.pi.nil k,h.kp.trans k,own_kp h.own k (fun _ _ x => x),RpX.leave (fun b hb _ => ⟨hb,fun hl => k.block b hl (fun x => x)⟩) (qqr _) es xs h.rep,h.ne⟩
theorem XI.grown {v':Value} {e:Ex} {vk:Value} {vcs:List Value} {b0:Nat} (h:XI D A C w0 v n xs es left nd N ys w) (h4:OwnS w b0 vk e.keys) (h6:RpT w b0 (fun _ => True) e.val vcs) (hb0:w0.heap.size+1<=b0)
  (hv:∀ g,v.ownBlock=some g->g<b0) (hn:∀ g,nd.ownBlock=some g->g<b0) (hg:w.grownBy w' v.ownBlock) (ho:w'.ownsRow (w0.heap.size+1) 83 6 v' (n+1) (xs++(.int .i64 (e.kind:Nat) :: vk :: vcs))) (hf:Fresh w v v') :
  XI D A C w0 v' (n+1) (xs++(.int .i64 (e.kind:Nat) :: vk :: vcs)) (es++[e]) left nd N ys w':=by
 have hvl:=h.own.lt;have hnl:=h.pi.own.lt;have hk:Kp (fun k => some k=v.ownBlock) w w':=Kp.ofGrown hg;have hX:∀ b,v.ownBlock ≠ some b->b<w.heap.size->v'.ownBlock ≠ some b:=fun b h1 h2 => fresh_ne hf h1 h2
 refine ⟨h.pi.kp hk (fun e => by have:=(hvl _ e.symm).1;omega) (fun a ha e => (h.ne _ e.symm).2 a ha rfl) (fun g hg e => (h.ne g e.symm).1 hg),h.kp.grown hg (fun k hk => .inr (by have:=(hvl k hk).1;omega)),ho,?_,fun g hg => ?_⟩
 ·refine RpX.leave (w:=w) (base:=w0.heap.size+1) (S:=fun b => (v.ownBlock ≠ some b/\nd.ownBlock ≠ some b)/\b<w.heap.size) (fun b hb h2 => ⟨⟨hX b hb.1.1 hb.2,hb.1.2⟩,fun hl => hk.block b hl (fun e => hb.1.1 e.symm)⟩) (qqr _) _ _
   (RpX.append es [e] xs _ (RpX.there es xs h.rep) (RpX.one (own_mono h4 hb0) (fun g hg => ⟨⟨fun e => ?_,fun e => ?_⟩,?_⟩) (RpT.mono (RpT.there _ _ h6) hb0 (fun b hb h2 => ⟨⟨fun e => ?_,fun e => ?_⟩,hb.2⟩))))
  ·have:=hv g e;have:=(World.ownsRow.lt h4 g hg).1;omega
  ·have:=hn g e;have:=(World.ownsRow.lt h4 g hg).1;omega
  ·exact (World.ownsRow.lt h4 g hg).2
  ·have:=hv b e;omega
  ·have:=hn b e;omega
 ·rcases hf with h1 | h1
  ·exact h.ne g (h1 ▸ hg)
  ·have h2:=h1 g hg;exact ⟨fun e => by have:=(hnl g e).2;omega,fun a ha e => by have:=(h.pi.ltA a ha).2.2;omega⟩
end
def Read2Post (w:World) (r:R (List Ex)) (e:Ending) (w':World):Prop :=
 Kp Nil w w'/\match r with
 | .good es _ => ∃ v xs,e=.returned (.tuple #[v,.bool true])/\w'.ownsRow (w.heap.size+1) 83 6 v es.length xs/\RpX w' (w.heap.size+1) (fun b => v.ownBlock ≠ some b) es xs/\es.length<=1000000/\∀ e ∈ es,ExOk e
 | .bad => e=.returned (.tuple #[.slice none 0 0,.bool false])
 | .opn => True
theorem XI.post {D:Doc} {A:Option Addr} {C:Nat} {w0 w:World} {v:Value} {xs:List Value} {es:List Ex} {left nd:Value} {N p:Nat} {ys:List Value} {r:R (List Ex)} (h:XI D A C w0 v es.length xs es left nd N ys w) (hr:r=.good es p) (hl:es.length<=1000000) (hx:∀ e ∈ es,ExOk e):Read2Post w0 r (.returned (.tuple #[v,.bool true])) w:=by
 subst hr;exact ⟨h.kp,v,xs,rfl,h.own,RpX.leave (fun b hb _ => ⟨hb.1,fun _ => rfl⟩) (qqr _) es xs h.rep,hl,hx⟩
theorem exNds_head (x:Ex):∃ ch,(exNds 0 x)[0]?=some ⟨if x.kind=0 then 5 else x.kind+2,[],0,ch⟩:=by
 unfold exNds;split
 ·exact ⟨_,rfl⟩
 ·exact ⟨_,rfl⟩
theorem error2_c (bp:Nat) (w:World) (er:Value) (b4:w.cell? ⟨bp,4,none⟩=some er):Calls Tryz.prog 34 #[.pointer (some ⟨bp,0,none⟩)] w fun e w' => e=.returned er/\w'=w:=by
 go_enter Tryz.func34,Tryz.ntmps34;go_wp2_with fail
 go_ret;exact ⟨rfl,rfl⟩
theorem error_c (D:Doc) (A:Option Addr) (C bp:Nat) (w:World) (left nd er:Value) (N:Nat) (xs:List Value) (nst:Nat) (hP:PI D A C bp w left nd N xs er nst) :
  Calls Tryz.prog 34 #[.pointer (some ⟨bp,0,none⟩)] w fun e w' => e=.returned er/\w'=w:=by
 have b4:=hP.blk.cell 4 rfl;clear hP;go_enter Tryz.func34,Tryz.ntmps34;go_wp2_with fail
 go_ret;exact ⟨rfl,rfl⟩
theorem expr_c (D:Doc) (A:Option Addr) (C bp:Nat) (w:World) (left nd er:Value) (ns:List Nd) (nst:Nat) (hP:PN D A C bp w left nd ns er nst) (hn:0<ns.length) (hN:ns.length<=268435456) :
  Calls Tryz.prog 30 #[.pointer (some ⟨bp,0,none⟩)] w fun e w' => (∃ g,nd.ownBlock=some g/\e=.returned (.pointer (some ⟨g,0,none⟩)))/\w'=w:=by
 obtain ⟨xs,hI,hR⟩:=hP;obtain ⟨na,nc,rfl,hnc,hna⟩:=hI.form;obtain ⟨g,rfl⟩:=hna (by omega);have b3:=hI.blk.cell 3 rfl;have e0:((ns.length:Int) == 0)=false:=qqn (by omega);clear hna hR hI;go_enter Tryz.func30,Tryz.ntmps30;go_wp2_with fail
 go_ret;exact ⟨⟨g,rfl,rfl⟩,rfl⟩
theorem read2_c (D:Doc) (A0:Option Addr) (C0:Nat) (w:World) (hd:DocAt D A0 C0 w) (hB:D.n<=1000000) (hno:docRun D 0 [] ≠ .opn) :
  Calls Tryz.prog 10 #[.slice A0 D.n C0] w (Read2Post w (docRun D 0 [])):=by
 obtain ⟨r,hr⟩:∃ r,docRun D 0 []=r:=⟨_,rfl⟩;rw [hr] at hno ⊢;have hd1:Hid (DocAt D A0 C0 (w.alloc (.cells #[.bool false,.slice none 0 0,.slice none 0 0,.slice none 0 0,.nilIface,.int .i64 0] 66))):=hd.kp (S:=Nil) ((Kp.refl _ _).alloc _) (fun _ _ h => h);have HR:=qqh hr;have HNO:=qqh hno;clear hd hr hno;go_enter Tryz.func10,Tryz.ntmps10;go_wp2_with fail
 refine (clone_c D A0 C0 _ (by exact hd1.out)).mono ?_;rintro e w1 ⟨hk1,A,C,rfl,hdoc,hnew⟩;have hb1:Blk w1 w.heap.size [.bool false,.slice none 0 0,.slice none 0 0,.slice none 0 0,.nilIface,.int .i64 0] 66:=(Blk.new w [.bool false,.slice none 0 0,.slice none 0 0,.slice none 0 0,.nilIface,.int .i64 0] 66).kpNil hk1;have HB1:=qqh hb1;have HD1:=qqh hdoc;have HA1:Hid (∀ a,A=some a->a.block ≠ w.heap.size/\a.block<w1.heap.size):=fun a ha => ⟨by have:=(hnew a ha).1;simp at this;omega,(hnew a ha).2⟩
 have HK1:Hid (Kp Nil w w1):=Kp.trans ((Kp.refl _ _).alloc _) hk1;clear hk1 hdoc hnew hb1;go_wp2_with fail
 refine (reset_c D A C w.heap.size w1 HB1.out HD1.out HA1.out).mono ?_;rintro e w2 ⟨rfl,hP2,hk2⟩;have hX0:Hid (XI D A C w (.slice none 0 0) 0 [] [] (.slice A D.n C) (.slice none 0 0) 0 [] w2):=by
  obtain ⟨xs0,h1,h2⟩:=hP2;obtain rfl:xs0=[]:=by have:=h1.own.1;exact List.eq_nil_of_length_eq_zero (by simpa using this)
  exact ⟨h1,HK1.out.then hk2 (fun i hi => .inr (qql hi.symm)),World.ownsRow_nil _ _ _ _,rfl,fun g hg => by cases hg⟩
 have HV0:=qqh (doc_data hP2.doc);clear hP2 hk2 hd1;go_wp2_with fail
 go_loopw [5] (fun v5 wr => ∃ (j:Nat) (acc:List Ex) (sa:Option Addr) (sc:Nat) (xs:List Value) (a:Option Addr) (n c:Nat) (nd:Value) (N:Nat) (ys:List Value),v5=.slice sa acc.length sc/\acc.length<=j/\j<=D.n/\Hid (VW D A C j a n c)/\Hid (docRun D j acc=r)/\Hid (∀ e ∈ acc,ExOk e)/\Hid (XI D A C w (.slice sa acc.length sc) acc.length xs acc (.slice a n c) nd N ys wr)) (fun _ wr => lleft w.heap.size wr)
 case atStart =>
  have hE0:Hid (∀ e ∈ ([]:List Ex),ExOk e):=fun e he => by cases he
  exact ⟨0,[],_,_,_,_,_,_,_,_,_,rfl,qqr _,Nat.zero_le _,HV0,HR,hE0,hX0⟩
 case round =>
  obtain ⟨j,acc,sa,sc,xs,a,n,c,nd,N,ys,rfl,hacc,hjn,hV,hRR,hEX,hX⟩:=hrel;have hms:Hid (lleft w.heap.size wr=n):=by show _=_;unfold lleft;rw [hX.out.pi.blk.cell 2 rfl]
  have hvn:Hid (j+n=D.n):=hV.out.len;go_wp2_with fail
  refine (next29_c D A a C w.heap.size j n c _ nd N ys acc r (by exact hX.out.pi) hB hV.out hRR.out HNO.out).mono ?_;rintro e w3 h3;rcases h3 with ⟨rfl,⟨p,hp⟩,left,nd',hPN,hFr⟩ | ⟨rfl,hbad,⟨b,hcell⟩,hkb⟩ | ⟨rfl,x,k2,a2,n2,c2,nd',h1,h2,h3,h4,hPN,hFr,j1,hln⟩
  ·obtain ⟨zs,hpi⟩:∃ zs,PI D A C w.heap.size w3 left nd' 0 zs .nilIface 0:=⟨_,hPN.choose_spec.1⟩;have hX3:Hid (XI D A C w (.slice sa acc.length sc) acc.length xs acc left nd' 0 zs w3):=hX.out.next hpi hFr;have HP3:=qqh hp;clear hp hPN hFr hpi;go_wp2_with fail
   refine (error_c D A C w.heap.size _ _ _ _ _ _ _ (by exact hX3.out.pi)).mono ?_;rintro e w4 ⟨rfl,hw4⟩;obtain rfl:=hw4.symm;go_wp2_with fail
   go_ret2;exact hX3.out.post HP3.out (by omega) hEX.out
  ·have HBAD:=qqh hbad;have HKB:Hid (Kp Nil w w3):=hX.out.kp.then hkb (fun i hi => .inr hi);clear hbad hkb;go_wp2_with fail
   refine (error2_c w.heap.size _ _ (by exact hcell)).mono ?_;rintro e w4 ⟨rfl,hw4⟩;obtain rfl:=hw4.symm;go_wp2_with fail
   go_ret2;exact ⟨HKB.out,by rw [HBAD.out];rfl⟩
  ·have hxo:=lnP_ok hB hln;obtain ⟨zs,hpi⟩:∃ zs,PI D A C w.heap.size w3 (.slice a2 n2 c2) nd' (exNds 0 x).length zs .nilIface 0:=⟨_,hPN.choose_spec.1⟩;have hX3:Hid (XI D A C w (.slice sa acc.length sc) acc.length xs acc (.slice a2 n2 c2) nd' (exNds 0 x).length zs w3):=hX.out.next hpi hFr;have hlen:=exNds_len x;have hsz:=hxo.size;have hgd:=exNds_good hxo;have hl8:=hgd.len;have hl0:0<(exNds 0 x).length:=(by rw [hlen];split <;> omega);have HPN:=qqh hPN;have HXO:=qqh hxo;have HV2:=qqh h4;have HR2:=qqh h3;clear hln hPN hFr hpi h3 h4 hlen hsz;go_wp2_with fail
   refine (expr_c D A C w.heap.size _ _ _ _ _ _ (by exact HPN.out) hl0 (by omega)).mono ?_;rintro e w4 ⟨⟨g,hg,rfl⟩,hw4⟩;obtain rfl:=hw4.symm;have hRC:Hid (RC D A C w.heap.size (.slice a2 n2 c2) nd' .nilIface (exNds 0 x) 0 g w3):=⟨HPN.out,hg,hgd⟩;have HGD:=qqh hgd;have HG:=qqh hg;have hgl:=(HPN.out.rowlt g hg).2;obtain ⟨ch,hn0⟩:=exNds_head x;obtain ⟨d,cc,x0,x3,x4,x5,x6,x7,x8,x9⟩:=HPN.out.node hg hn0;dsimp only at x0;simp only [Nat.mul_zero] at x0;have HN0:=qqh hn0;have hvl:=qqh hX3.out.own.lt;have hnl:=qqh hX3.out.pi.own.lt;have hw3:w.heap.size+1<=w3.heap.size:=(by have:=HPN.out.ltB;omega);have hsA:acc.length<=1000000:=(by omega);clear x3 x4 x5 x6 x7 x8 x9 hn0 hg hgd;obtain ⟨xk,xkeys,xval⟩:=x;have hkd:xk<=2:=HXO.out.kind;rcases (show xk=0\/xk=1\/xk=2 by omega) with rfl | rfl | rfl
   ·have x0:w3.cell? ⟨g,0,none⟩=some (.int .i64 5):=x0;go_wp2_with fail
    refine (ekeys_c D A C w.heap.size _ _ _ _ _ 0 g HXO.out (by exact hRC.out)).mono ?_;rintro e w5 ⟨vk,rfl,hok,hk5⟩;obtain ⟨ka,kl,kc,rfl⟩:=IsSl.own hok;have HOK:=qqh hok;have HK5:=qqh hk5;have hs5:=hk5.size;clear hok hk5;have hhd:Hid (∃ d,(exNds 0 ⟨0,xkeys,xval⟩)[0]?=some ⟨5,[],0,xkeys.length+2⟩/\xkeys.length+2<=(exNds 0 ⟨0,xkeys,xval⟩).length/\d=0):=by
     have e:(exNds 0 ⟨0,xkeys,xval⟩)[0]?=some ⟨5,[],0,xkeys.length+2⟩:=by
      show (kvNds 0 0 xkeys xval)[0]?=_;show some (Nd.mk 5 [] 0 (0+xkeys.length+2))=_;rw [Nat.zero_add]
     exact ⟨0,e,HGD.out.child _ (List.mem_of_getElem? e),rfl⟩
    obtain ⟨_,hh1,hh2,_⟩:=hhd.out;have HH1:=qqh hh1;clear hh1 hhd;have hR5:=qqh (hRC.out.nil HK5.out);go_wp2_with fail
    refine (value33_c D A C w.heap.size _ _ _ _ _ 0 g 0 _ (by exact hR5.out.pn) HG.out HH1.out (by exact hh2) (by omega)).mono ?_;rintro e w6 ⟨rfl,m6,rfl⟩;have hR6:=qqh (hR5.out.nil ((Kp.refl Nil w5).drewN m6));rw [show nodePtr g (Nd.mk 5 [] 0 (xkeys.length+2)).child=.pointer (some ⟨g,7 * (0+1+xkeys.length),none⟩) by show nodePtr g (xkeys.length+2)=_;rw [show xkeys.length+2=(0+1+xkeys.length)+1 by omega];rfl];have hsv:Hid (SegN (exNds 0 ⟨0,xkeys,xval⟩) (0+1+xkeys.length) (tNds (0+1+xkeys.length) (0+2) xval)):=by
     have h:=SegN.self (exNds 0 ⟨0,xkeys,xval⟩);have h:SegN (exNds 0 ⟨0,xkeys,xval⟩) 0 (kvNds 0 0 xkeys xval):=h;have:=SegN.right (SegN.tail h);rw [keyNds_len] at this;exact this
    go_wp2_with fail
    refine (nodeT D A C w.heap.size _ _ _ _ 0 g xval (by have:=HXO.out.size;show tSize xval<=_;have:xkeys.length+tSize xval<=50000000:=this;omega) _ _ _ (by exact hR6.out) hsv.out (by exact (HXO.out.wf rfl).1)).mono ?_;rintro e w7 ⟨cs7,rfl,hrp,hk7⟩;rw [under_keys (HXO.out.wf rfl).2] at hrp;have hs7:=hk7.size;have HRP:=qqh hrp;have HK7:=qqh hk7;obtain ⟨vk,vl,vi,vy,rfl,⟨ia',il',ic',rfl⟩,⟨ka',kl',kc',rfl⟩⟩:=RpT.node hrp;clear hrp hk7;have hs7':w5.heap.size<=w7.heap.size:=hs7;have hK37:Hid (Kp Nil w3 w7):=Kp.trans HK5.out (Kp.trans ((Kp.refl Nil w5).drewN m6) HK7.out);have hX7:Hid (XI D A C w (.slice sa acc.length sc) acc.length xs acc (.slice a2 n2 c2) nd' (exNds 0 ⟨0,xkeys,xval⟩).length zs w7):=hX3.out.nil hK37.out;have hbW:w.heap.size+1<=w7.heap.size:=(by omega);go_wp2_with (at_builtin;refine wpList_appF rfl T33 _ _ rfl (w.heap.size+1) (.slice sa acc.length sc) acc.length xs rfl (by exact own_alloc hX7.out.own _) w7.heap.size 1 _ rfl [.int .i64 0,.slice ka kl kc,.int .i64 vk,.string vl,.slice ia' il' ic',.slice ka' kl' kc'] rfl (fun j u hu => by change (w7.alloc _).cell? ⟨w7.heap.size,j,none⟩=some u;rw [cell_newI rfl];simpa using hu) (by intro u hu;simp at hu;rcases hu with rfl | rfl | rfl | rfl | rfl | rfl <;> rfl) (by omega) (by omega) (by simp;omega) ?_)
    intro v' w8 hown8 hg8 hfr8;obtain ⟨sa',sl',sc',rfl⟩:=IsSl.own hown8;obtain rfl:sl'=acc.length+1:=own_len hown8;have hX8:XI D A C w (.slice sa' (acc.length+1) sc') (acc.length+1) (xs++[.int .i64 0,.slice ka kl kc,.int .i64 vk,.string vl,.slice ia' il' ic',.slice ka' kl' kc']) (acc++[⟨0,xkeys,xval⟩]) (.slice a2 n2 c2) nd' (exNds 0 ⟨0,xkeys,xval⟩).length zs w8 :=
     XI.grown (e:=⟨0,xkeys,xval⟩) (b0:=w3.heap.size) (hX7.out.nil ((Kp.refl Nil w7).alloc _)) (own_alloc (own_kp HOK.out (Kp.trans ((Kp.refl Nil w5).drewN m6) HK7.out) (fun _ _ x => x)) _)
      (RpT.kp (RpT.mono HRP.out (by simp;omega) (fun _ _ _ => trivial)) ((Kp.refl Nil w7).alloc _) (fun _ _ x => x)) hw3 (fun g hg => (hvl.out g hg).2) (fun g hg => (hnl.out g hg).2) hg8 hown8 hfr8
    have hms8:Hid (lleft w.heap.size w8=n2):=(by show _=_;unfold lleft;rw [hX8.pi.blk.cell 2 rfl]);have hvn2:Hid (k2+n2=D.n):=HV2.out.len;have hX9:Hid (XI D A C w (.slice sa' (acc++[Ex.mk 0 xkeys xval]).length sc') (acc++[Ex.mk 0 xkeys xval]).length (xs++[.int .i64 0,.slice ka kl kc,.int .i64 vk,.string vl,.slice ia' il' ic',.slice ka' kl' kc']) (acc++[⟨0,xkeys,xval⟩]) (.slice a2 n2 c2) nd' (exNds 0 ⟨0,xkeys,xval⟩).length zs w8):=(by show XI _ _ _ _ _ _ _ _ _ _ _ _ _;rw [qqa];exact hX8);have hE9:Hid (∀ e ∈ acc++[Ex.mk 0 xkeys xval],ExOk e):=fun e he => by
     rcases List.mem_append.1 he with h | h
     ·exact hEX.out e h
     ·rw [List.mem_singleton.1 h];exact HXO.out
    clear hX8 hown8 hg8 hfr8;go_wp2_with fail
    go_roundw
    case rel => exact ⟨k2,acc++[Ex.mk 0 xkeys xval],sa',sc',_,a2,n2,c2,nd',_,_,by rw [qqa];rfl,by rw [qqa];show acc.length+1<=k2;omega,h2,HV2,HR2,hE9,hX9⟩
    case measure => rw [hms.out,hms8.out];have:=hvn.out;have:=hvn2.out;omega
   ·have x0:w3.cell? ⟨g,0,none⟩=some (.int .i64 3):=x0;go_wp2_with fail
    refine (ekeys_c D A C w.heap.size _ _ _ _ _ 0 g HXO.out (by exact hRC.out)).mono ?_;rintro e w5 ⟨vk,rfl,hok,hk5⟩;obtain ⟨ka,kl,kc,rfl⟩:=IsSl.own hok;have HOK:=qqh hok;have HK5:=qqh hk5;have hs5:=hk5.size;clear hok hk5;have hX7:Hid (XI D A C w (.slice sa acc.length sc) acc.length xs acc (.slice a2 n2 c2) nd' (exNds 0 ⟨1,xkeys,xval⟩).length zs w5):=hX3.out.nil HK5.out;have hz:Hid (xval=.zero):=HXO.out.zero (by show 1 ≠ 0;omega);have hbW:w.heap.size+1<=w5.heap.size:=(by omega);go_wp2_with (at_builtin;refine wpList_appF rfl T33 _ _ rfl (w.heap.size+1) (.slice sa acc.length sc) acc.length xs rfl (by exact own_alloc hX7.out.own _) w5.heap.size 1 _ rfl [.int .i64 1,.slice ka kl kc,.int .i64 0,.string ⟨#[]⟩,.slice none 0 0,.slice none 0 0] rfl (fun j u hu => by change (w5.alloc _).cell? ⟨w5.heap.size,j,none⟩=some u;rw [cell_newI rfl];simpa using hu) (by intro u hu;simp at hu;rcases hu with rfl | rfl | rfl | rfl | rfl | rfl <;> rfl) (by omega) (by omega) (by simp;omega) ?_)
    intro v' w8 hown8 hg8 hfr8;obtain ⟨sa',sl',sc',rfl⟩:=IsSl.own hown8;obtain rfl:sl'=acc.length+1:=own_len hown8;have hX8:XI D A C w (.slice sa' (acc.length+1) sc') (acc.length+1) (xs++[.int .i64 1,.slice ka kl kc,.int .i64 0,.string ⟨#[]⟩,.slice none 0 0,.slice none 0 0]) (acc++[⟨1,xkeys,xval⟩]) (.slice a2 n2 c2) nd' (exNds 0 ⟨1,xkeys,xval⟩).length zs w8 :=
     XI.grown (e:=⟨1,xkeys,xval⟩) (b0:=w3.heap.size) (hX7.out.nil ((Kp.refl Nil w5).alloc _)) (own_alloc HOK.out _)
      (by show RpT _ _ _ xval _;rw [hz.out];exact RpT.leafV _ _ _ 0 []) hw3 (fun g hg => (hvl.out g hg).2) (fun g hg => (hnl.out g hg).2) hg8 hown8 hfr8
    have hms8:Hid (lleft w.heap.size w8=n2):=(by show _=_;unfold lleft;rw [hX8.pi.blk.cell 2 rfl]);have hvn2:Hid (k2+n2=D.n):=HV2.out.len;have hX9:Hid (XI D A C w (.slice sa' (acc++[Ex.mk 1 xkeys xval]).length sc') (acc++[Ex.mk 1 xkeys xval]).length (xs++[.int .i64 1,.slice ka kl kc,.int .i64 0,.string ⟨#[]⟩,.slice none 0 0,.slice none 0 0]) (acc++[⟨1,xkeys,xval⟩]) (.slice a2 n2 c2) nd' (exNds 0 ⟨1,xkeys,xval⟩).length zs w8):=(by show XI _ _ _ _ _ _ _ _ _ _ _ _ _;rw [qqa];exact hX8);have hE9:Hid (∀ e ∈ acc++[Ex.mk 1 xkeys xval],ExOk e):=fun e he => by
     rcases List.mem_append.1 he with h | h
     ·exact hEX.out e h
     ·rw [List.mem_singleton.1 h];exact HXO.out
    clear hX8 hown8 hg8 hfr8;go_wp2_with fail
    go_roundw
    case rel => exact ⟨k2,acc++[Ex.mk 1 xkeys xval],sa',sc',_,a2,n2,c2,nd',_,_,by rw [qqa];rfl,by rw [qqa];show acc.length+1<=k2;omega,h2,HV2,HR2,hE9,hX9⟩
    case measure => rw [hms.out,hms8.out];have:=hvn.out;have:=hvn2.out;omega
   ·have x0:w3.cell? ⟨g,0,none⟩=some (.int .i64 4):=x0;go_wp2_with fail
    refine (ekeys_c D A C w.heap.size _ _ _ _ _ 0 g HXO.out (by exact hRC.out)).mono ?_;rintro e w5 ⟨vk,rfl,hok,hk5⟩;obtain ⟨ka,kl,kc,rfl⟩:=IsSl.own hok;have HOK:=qqh hok;have HK5:=qqh hk5;have hs5:=hk5.size;clear hok hk5;have hX7:Hid (XI D A C w (.slice sa acc.length sc) acc.length xs acc (.slice a2 n2 c2) nd' (exNds 0 ⟨2,xkeys,xval⟩).length zs w5):=hX3.out.nil HK5.out;have hz:Hid (xval=.zero):=HXO.out.zero (by show 2 ≠ 0;omega);have hbW:w.heap.size+1<=w5.heap.size:=(by omega);go_wp2_with (at_builtin;refine wpList_appF rfl T33 _ _ rfl (w.heap.size+1) (.slice sa acc.length sc) acc.length xs rfl (by exact own_alloc hX7.out.own _) w5.heap.size 1 _ rfl [.int .i64 2,.slice ka kl kc,.int .i64 0,.string ⟨#[]⟩,.slice none 0 0,.slice none 0 0] rfl (fun j u hu => by change (w5.alloc _).cell? ⟨w5.heap.size,j,none⟩=some u;rw [cell_newI rfl];simpa using hu) (by intro u hu;simp at hu;rcases hu with rfl | rfl | rfl | rfl | rfl | rfl <;> rfl) (by omega) (by omega) (by simp;omega) ?_)
    intro v' w8 hown8 hg8 hfr8;obtain ⟨sa',sl',sc',rfl⟩:=IsSl.own hown8;obtain rfl:sl'=acc.length+1:=own_len hown8;have hX8:XI D A C w (.slice sa' (acc.length+1) sc') (acc.length+1) (xs++[.int .i64 2,.slice ka kl kc,.int .i64 0,.string ⟨#[]⟩,.slice none 0 0,.slice none 0 0]) (acc++[⟨2,xkeys,xval⟩]) (.slice a2 n2 c2) nd' (exNds 0 ⟨2,xkeys,xval⟩).length zs w8 :=
     XI.grown (e:=⟨2,xkeys,xval⟩) (b0:=w3.heap.size) (hX7.out.nil ((Kp.refl Nil w5).alloc _)) (own_alloc HOK.out _)
      (by show RpT _ _ _ xval _;rw [hz.out];exact RpT.leafV _ _ _ 0 []) hw3 (fun g hg => (hvl.out g hg).2) (fun g hg => (hnl.out g hg).2) hg8 hown8 hfr8
    have hms8:Hid (lleft w.heap.size w8=n2):=(by show _=_;unfold lleft;rw [hX8.pi.blk.cell 2 rfl]);have hvn2:Hid (k2+n2=D.n):=HV2.out.len;have hX9:Hid (XI D A C w (.slice sa' (acc++[Ex.mk 2 xkeys xval]).length sc') (acc++[Ex.mk 2 xkeys xval]).length (xs++[.int .i64 2,.slice ka kl kc,.int .i64 0,.string ⟨#[]⟩,.slice none 0 0,.slice none 0 0]) (acc++[⟨2,xkeys,xval⟩]) (.slice a2 n2 c2) nd' (exNds 0 ⟨2,xkeys,xval⟩).length zs w8):=(by show XI _ _ _ _ _ _ _ _ _ _ _ _ _;rw [qqa];exact hX8);have hE9:Hid (∀ e ∈ acc++[Ex.mk 2 xkeys xval],ExOk e):=fun e he => by
     rcases List.mem_append.1 he with h | h
     ·exact hEX.out e h
     ·rw [List.mem_singleton.1 h];exact HXO.out
    clear hX8 hown8 hg8 hfr8;go_wp2_with fail
    go_roundw
    case rel => exact ⟨k2,acc++[Ex.mk 2 xkeys xval],sa',sc',_,a2,n2,c2,nd',_,_,by rw [qqa];rfl,by rw [qqa];show acc.length+1<=k2;omega,h2,HV2,HR2,hE9,hX9⟩
    case measure => rw [hms.out,hms8.out];have:=hvn.out;have:=hvn2.out;omega
theorem OwnS.form {w:World} {base:Nat} {v:Value} {ks:List (List UInt8)} (h:OwnS w base v ks):∃ a c,v=.slice a ks.length c/\∀ i (hi:i<ks.length),∃ g,a=some ⟨g,0,none⟩/\w.cell? ⟨g,i,none⟩=some (sv ks[i]):=by
 obtain ⟨a,l,c,rfl⟩:=IsSl.own h;obtain rfl:l=ks.length:=own_len h;refine ⟨a,c,rfl,fun i hi => ?_⟩;rcases h.2 with ⟨h1,h2⟩ | ⟨g,cap,cur,h1,_⟩
 ·omega
 ·injection h1 with h1 _ h3;subst h1 h3;refine ⟨g,rfl,?_⟩;rw [World.ownsRow.cellAt h i (by omega)];simp [List.getElem?_map,List.getElem?_eq_getElem hi]
theorem keysAre_c (w:World) (b1 b2:Nat) (v1 v2:Value) (ks:List (List UInt8)) (h1:OwnS w b1 v1 ks) (h2:OwnS w b2 v2 ks) (hn:ks.length<=1073741824) :
  Calls Tryz.prog 35 #[v1,v2] w fun e w' => e=.returned (.bool true)/\∃ m,w'=w.drewN m:=by
 obtain ⟨a1,c1,rfl,f1⟩:=OwnS.form h1;obtain ⟨a2,c2,rfl,f2⟩:=OwnS.form h2;have F1:=qqh f1;have F2:=qqh f2;obtain ⟨n,hnn⟩:∃ n,ks.length=n:=⟨_,rfl⟩;rw [hnn];have HN:Hid (ks.length=n):=hnn;have hn':n<=1073741824:=hnn ▸ hn;clear h1 h2 f1 f2 hnn hn;go_enter Tryz.func35,Tryz.ntmps35;go_wp2_with fail
 go_loopw [13] (fun x wr => ∃ (i m:Nat),x=.int .i64 i/\i<=n/\wr=w.drewN m) (fun x _ => n - (intOf x).toNat)
 case atStart => exact ⟨0,0,rfl,Nat.zero_le _,rfl⟩
 case round =>
  obtain ⟨i,m,rfl,hi,rfl⟩:=hrel;rcases qqg i n with hlt | hge
  ·obtain ⟨g1,rfl,e1⟩:=F1.out i (by rw [HN.out];exact hlt);obtain ⟨g2,rfl,e2⟩:=F2.out i (by rw [HN.out];exact hlt);obtain ⟨s,hs⟩:∃ s,sv (ks[i]'(by rw [HN.out];exact hlt))=.string s:=⟨_,rfl⟩;rw [hs] at e1 e2;clear hs;have e1':∀ k,(w.drewN k).cell? ⟨g1,i,none⟩=some (.string s):=fun k => e1
   have e2':∀ k,(w.drewN k).cell? ⟨g2,i,none⟩=some (.string s):=fun k => e2
   have hi1:(i:Int)<n:=(by omega);go_wp2_with (go_quiet (fail))
   go_roundw
   case rel => exact ⟨i+1,_,rfl,by omega,rfl⟩
   case measure => simp [intOf];omega
  ·obtain rfl:i=n:=(by omega);go_wp2_with fail
   go_ret;exact ⟨rfl,_,rfl⟩
end Go.Proofs.YtpgmddjgcgpoeaaGreat
