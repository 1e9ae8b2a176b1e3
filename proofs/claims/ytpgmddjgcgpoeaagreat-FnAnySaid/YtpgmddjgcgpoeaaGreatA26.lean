/-
  Part 26 of the proof.
-/
import Derived.Test.YtpgmddjgcgpoeaaGreatA25
import Derived.Deep.DeepCutAuto
set_option linter.unusedVariables false
set_option linter.unusedSimpArgs false
namespace Go.Proofs.YtpgmddjgcgpoeaaGreat
open Go.RowKit
set_option maxRecDepth 100000 in
set_option maxHeartbeats 16000000 in
theorem tab_c (D:Doc) (d:Nat) (hval:ValCI D d) (A a:Option Addr) (C bp k n c:Nat) (w:World) (left nd er:Value) (ns:List Nd) (nst:Nat) (hP:PN D A C bp w left nd ns er nst) (hB:ns.length+4 * (D.n - k)≤90000000) (hv:VW D A C k a n c)
  (hd:nst+d≤100) (hk:k<D.n) (hno:tabP D (valP D d) (k+1) ≠ .opn) :
  Calls Tryz.prog 100 #[.pointer (some ⟨bp,0,none⟩),.slice a n c] w (VlPost D A C bp w nd left er ns nst (tabP D (valP D d) (k+1))):=by
 have hs:=D.small
 have hC1:=hP.doc.1
 have hC2:=hP.doc.2.1
 have hlt:=hP.ltB
 have hln:=Nat.le_of_eq hv.len
 have hln':=Nat.le_of_eq hv.len.symm
 have hcp:=Nat.le_of_eq hv.cap
 have hcp':=Nat.le_of_eq hv.cap.symm
 have hA:=fun a ha => (hP.apartA a ha).2.2
 have hrow:=fun g hg => (hP.rowlt g hg).2
 obtain ⟨r,hr⟩:∃ r,tabP D (valP D d) (k+1)=r:=⟨_,rfl⟩
 rw [hr] at hno ⊢
 obtain ⟨a0,hva,hrun⟩:=VW.from_ hv hC1 1 1 rfl (by omega)
 have HP:=Lib.hid hP
 have HV:=Lib.hid hv
 have HR:Hid (tabS D (valP D d) false (k+1) [] r):=.inl ⟨hr,rfl⟩
 have HNO:=Lib.hid hno
 have HVAL:=Lib.hid hval
 have HVA0:=Lib.hid hva
 have HA:=Lib.hid hA
 have HROW:=Lib.hid hrow
 have HROWB:Hid (∀ g,nd.ownBlock=some g→bp<g):=fun g hg => (HP.out.rowlt g hg).1
 have HFO:=Lib.hid (fok D d)
 clear hP hv hr hno hval hva hA hrow
 go_enter Tryz.func100,Tryz.ntmps100
 obtain ⟨H,hH⟩:∃ H,ns.length+1=H:=⟨_,rfl⟩
 have HH:=Lib.hid hH
 have hHb:1≤H∧H≤100000000:=by omega
 clear hH
 go_upto_region 1 with fail
 have c2:(w.alloc (.cells #[.pointer (some ⟨bp,0,none⟩)] 74)).cell? ⟨w.heap.size,0,none⟩=some (.pointer (some ⟨bp,0,none⟩)):=by rw [cell_new (by simp)];rfl
 have hP0:Hid (PN D A C bp (w.alloc (.cells #[.pointer (some ⟨bp,0,none⟩)] 74)) left nd ns er nst):=HP.out.nil ((Kp.refl Nil w).alloc _)
 have hrunt:=upto_ a n c 1 1 rfl (by omega)
 go_cut [7] (fun x wx => ∃ (b7:Nat) (nd1:Value),x=.pointer (some ⟨b7,0,none⟩)∧Hid (AW0 D A C bp w nd left er nst w.heap.size b7 H (ns++[(⟨7,[],0,0⟩:Nd)]) wx nd1))
 case first =>
  have hPd:=hP0.out.nil ((Kp.refl Nil _).drew)
  have hcd:(w.alloc (.cells #[.pointer (some ⟨bp,0,none⟩)] 74)).drew.cell? ⟨w.heap.size,0,none⟩=some (.pointer (some ⟨bp,0,none⟩)):=c2
  have HPD:=Lib.hid hPd
  have HC5:Hid (∀ w5,Kp Nil (w.alloc (.cells #[.pointer (some ⟨bp,0,none⟩)] 74)).drew w5→w5.cell? ⟨w.heap.size,0,none⟩=some (.pointer (some ⟨bp,0,none⟩))):=fun w5 hk5 => (World.cell?_of_block (a:=⟨w.heap.size,0,none⟩) (hk5.block w.heap.size (by simp) (fun x => x))).trans hcd
  have HROW2:Hid (nd.ownBlock ≠ some w.heap.size):=fun e => by have:=HROW.out _ e;omega
  have hPd2:=hP0.out.nil (((Kp.refl Nil _).alloc (.cells #[.int .i32 0] 21)).drew)
  have HPD2:=Lib.hid hPd2
  have HC52:Hid (∀ w5,Kp Nil ((w.alloc (.cells #[.pointer (some ⟨bp,0,none⟩)] 74)).alloc (.cells #[.int .i32 0] 21)).drew w5→w5.cell? ⟨w.heap.size,0,none⟩=some (.pointer (some ⟨bp,0,none⟩))∧Blk w5 (w.heap.size+1) [.int .i32 0] 21):=fun w5 hk5 => by
   have hb:=((Blk.new w [.pointer (some ⟨bp,0,none⟩)] 74).alloc (.cells #[.int .i32 0] 21)).drew.kpNil hk5
   have hb7:=(Blk.new (w.alloc (.cells #[.pointer (some ⟨bp,0,none⟩)] 74)) [.int .i32 0] 21).drew.kpNil hk5
   refine ⟨hb.cell 0 rfl,?_⟩
   simpa using hb7
  clear hPd hPd2
  go_region_law (first
   | (go_simp;go_at_call 57;refine (range_c D A a C k 1 c bp _ (by exact HPD.out.ltB) (by exact HPD.out.data) hC2 (by omega) (by omega) (by omega)).mono ?_;rintro e w5 ⟨⟨x,y,rfl⟩,hk5⟩;have hP5:=Lib.hid (HPD.out.nil hk5);have hk5':=Lib.hid hk5;have c5:=HC5.out w5 hk5;have c5a:=HC5.out _ (hk5.alloc (.cells #[.int .i32 0] 21));clear hk5)
   | (go_simp;go_at_call 57;refine (range_c D A a C k 1 c bp _ (by exact HPD2.out.ltB) (by exact HPD2.out.data) hC2 (by omega) (by omega) (by omega)).mono ?_;rintro e w5 ⟨⟨x,y,rfl⟩,hk5⟩;have hP5:=Lib.hid (HPD2.out.nil hk5);have hk5':=Lib.hid hk5;have c5:=(HC52.out w5 hk5).1;have HB75:=Lib.hid (HC52.out w5 hk5).2;clear hk5)
   | (go_simp;go_at_call 56;have hq:=HB75;refine (push_n D A C bp _ left nd er ns nst (by exact hP5.out) (by omega) 7 x y (.slice none 0 0) (.pointer none) [] ⟨none,0,rfl,fun h => absurd rfl h⟩).mono ?_;rintro e w6 ⟨nd6,rfl,hP6,hF6⟩;have HP6:=Lib.hid hP6;have HF6:=Lib.hid hF6;have HB7:=Lib.hid (Fr.blk hF6 HB75.out (by omega) (fun e => by have:=HROW.out _ e;omega));have b7c:=HB7.out.1.cell 0 rfl;have b7f:=HB7.out.1.free 0;clear hP6 hF6 hq)
   | (go_simp;go_at_call 56;refine (push_n D A C bp _ left nd er ns nst (by exact hP5.out) (by omega) 7 x y (.slice none 0 0) (.pointer none) [] ⟨none,0,rfl,fun h => absurd rfl h⟩).mono ?_;rintro e w6 ⟨nd6,rfl,hP6,hF6⟩;have HP6:=Lib.hid hP6;have HF6:=Lib.hid hF6;clear hP6 hF6)
   | (go_simp;go_at_call 56;have hX:=hP5.out.nil ((Kp.refl Nil w5).alloc (.cells #[.int .i32 0] 21));refine (push_n D A C bp _ left nd er ns nst (by exact hX) (by omega) 7 x y (.slice none 0 0) (.pointer none) [] ⟨none,0,rfl,fun h => absurd rfl h⟩).mono ?_;rintro e w6 ⟨nd6,rfl,hP6,hF6⟩;have HP6:=Lib.hid hP6;have HF6:=Lib.hid ((Fr.nil ((Kp.refl Nil w5).alloc (.cells #[.int .i32 0] 21))).trans hF6);have HB7:=Lib.hid (Fr.blk hF6 (Blk.new w5 [.int .i32 0] 21) (by have:=hP5.out.ltB;omega) (fun e => by have:=(hP5.out.rowlt _ e).2;omega));have b7c:=HB7.out.1.cell 0 rfl;have b7f:=HB7.out.1.free 0;clear hP6 hF6 hX))
  all_goals
   go_wp2_with fail
   have hvv:Value.int .i32 ((ns.length:Int)+1)=.int .i32 (H:Nat):=by have:=HH.out;rw [← this];rfl
   go_meet
   first
    | exact ⟨_,nd6,rfl,AW0.mkA hlt HA.out HROW.out (((Kp.refl Nil _).drew).trans hk5'.out) HF6.out HP6.out hvv⟩
    | exact ⟨_,nd6,rfl,AW0.mkB hlt HA.out HROW.out (((Kp.refl Nil _).drew).trans hk5'.out) HF6.out HP6.out hvv HB7.out (by have:=hk5'.out.size;simp at this;omega)⟩
    | exact ⟨_,nd6,rfl,AW0.mkB hlt HA.out HROW.out ((((Kp.refl Nil _).alloc _).drew).trans hk5'.out) HF6.out HP6.out hvv HB7.out (by omega)⟩
 case rest =>
  obtain ⟨b7,nd1,rfl,HZ⟩:=hcut
  go_upto_region 5 with fail
  have hZ:=Lib.hid (HZ.out.box)
  obtain ⟨b8,hb8⟩:∃ b8,wc.heap.size=b8:=⟨_,rfl⟩
  rw [hb8] at hZ ⊢
  refine wp_gen (fun W => Hid (AW D A C bp w nd left er nst w.heap.size b7 b8 H 0 (ns++[(⟨7,[],0,0⟩:Nd)]) W nd1)) hZ ?_
  intro W HW0
  clear hZ HZ hb8 hP0 c2 hrunt
  have hW0:Hid (AW D A C bp w nd left er nst w.heap.size b7 b8 H (lstH kvS ns.length []) (ns++hdNds kvT kvS 7 ns.length []) W nd1):=HW0.out
  clear HW0
  go_wp2_with fail
  go_loopw [1,10,11,12] (fun b x10 x11 x12 wr => ∃ (j:Nat) (av:Bool) (acc:List Tree) (a1:Option Addr) (n1 c1:Nat) (ndx:Value),b=.slice a1 n1 c1∧x10=.int .i32 0∧x11=.int .i32 0∧x12=.bool av∧k+1≤j∧j≤D.n∧cSize kvS acc≤j - (k+1)∧Hid (VW D A C j a1 n1 c1)∧Hid (AW D A C bp w nd left er nst w.heap.size b7 b8 H (lstH kvS ns.length acc) (ns++hdNds kvT kvS 7 ns.length acc) wr ndx)∧Hid (tabS D (valP D d) av j acc r)) (fun b _ _ _ _ => slen b)
  case atStart => exact ⟨k+1,false,[],_,_,_,_,rfl,rfl,rfl,rfl,Nat.le_refl _,by omega,Nat.zero_le _,HVA0,hW0,HR⟩
  case round =>
   obtain ⟨j,av,acc,a1,n1,c1,ndx,rfl,rfl,rfl,rfl,hj1,hj2,hsz,hV,hW,HR⟩:=hrel
   have hlj:=Nat.le_of_eq hV.out.len
   have hlj':=Nat.le_of_eq hV.out.len.symm
   go_wp2_with fail
   refine (skip_c D A a1 C j n1 c1 _ (by exact hW.out.pn.doc) hV.out).mono ?_
   rintro e w2 ⟨hw2,a2,n2,c2,rfl,hv2⟩
   obtain rfl:=hw2.symm
   have hb3:=wsEnd_ge D j
   have hb4:wsEnd D j≤D.n:=by have:=wsEnd_le D j;omega
   have HR1:Hid (tabS D (valP D d) av (wsEnd D j) acc r):=tabS_ws HR.out
   have hws:Hid (noWs D (wsEnd D j)):=noWs_end D j
   obtain ⟨j1,hj1'⟩:∃ j1,wsEnd D j=j1:=⟨_,rfl⟩
   rw [hj1'] at hb3 hb4 hv2 HR1 hws
   have HV2:=Lib.hid hv2
   have hl2:=Nat.le_of_eq hv2.len
   have hl2':=Nat.le_of_eq hv2.len.symm
   have hc2:=Nat.le_of_eq hv2.cap
   have hc2':=Nat.le_of_eq hv2.cap.symm
   have hltW:=hW.out.pn.ltB
   have hx2:=hW.out.h2.cell 0 rfl
   have hx7:=hW.out.h7.cell 0 rfl
   have hx0:=hW.out.pn.choose_spec.1.blk.cell 0 rfl
   clear hj1' hv2 HR hV
   rcases Nat.eq_zero_or_pos n2 with h0 | h0
   ·have HRB:Hid (r=.bad):=by
      show _=_
      cases av with
      | true => exact tabS_aft HR1.out hws.out (by have:=D.out j1 (by omega);omega) (by have:=D.out j1 (by omega);unfold latB;omega)
      | false => exact tabS_nokey HFO.out HR1.out hws.out (.inl (D.out j1 (by omega)))
    obtain rfl:=h0
    go_wp2_with fail
    refine (newErr_c _ _ _ _ _ (by omega)).mono ?_
    rintro e w4 ⟨⟨v,rfl,hE⟩,hk1⟩
    go_wp2_with fail
    go_ret3
    rw [HRB.out]
    exact PN.errH hW.out.pn hk1 hE hltW (hW.out.fr.kb HROWB.out)
   obtain ⟨bd,q,rfl,hb⟩:=HV2.out.bytes hW.out.pn.doc (by omega)
   have HB:=Lib.hid hb
   have b0:=hb 0 (by omega)
   simp only [Nat.add_zero] at b0
   clear hb
   by_cases h125:D.c j1=125
   ·have e125:((D.c j1:Int) == 125)=true:=by rw [beq_iff_eq];omega
    have HRG:Hid (r=.good (.mk 9 [] acc []) (j1+1)):=tabS_close HR1.out hws.out h125
    obtain ⟨a3,hva,hrun3⟩:=VW.from_ HV2.out hC1 1 1 rfl (by omega)
    have HVA:=Lib.hid hva
    clear h125 hva
    go_wp2_with fail
    go_quiet (fail)
    go_wp2_with fail
    go_ret3
    rw [HRG.out]
    have hp:=hW.out.pn
    rw [hd_table ns.length acc []] at hp
    exact .inl ⟨_,_,_,_,ret_key HH.out.symm,HVA.out,hp.nil ((Kp.refl Nil wr).drewN _),hW.out.fr.trans (Fr.nil ((Kp.refl Nil wr).drewN _))⟩
   have e125:((D.c j1:Int) == 125)=false:=beq_eq_false_iff_ne.2 (by omega)
   have hnl:¬ latB D j1:=fun h => HNO.out (tabS_lat HR1.out hws.out h)
   have hnl':D.c j1 ≠ 10∧D.c j1 ≠ 13∧D.c j1 ≠ 35:=by unfold latB at hnl;omega
   have e10:((D.c j1:Int) == 10)=false:=beq_eq_false_iff_ne.2 (by omega)
   have e13:((D.c j1:Int) == 13)=false:=beq_eq_false_iff_ne.2 (by omega)
   have e35:((D.c j1:Int) == 35)=false:=beq_eq_false_iff_ne.2 (by omega)
   by_cases h44:D.c j1=44
   ·have e44:((D.c j1:Int) == 44)=true:=by rw [beq_iff_eq];omega
    cases av with
    | true =>
     have HS:Hid (tabS D (valP D d) false (j1+1) acc r):=tabS_comma HR1.out hws.out h44 HNO.out
     obtain ⟨a3,hva,hrun3⟩:=VW.from_ HV2.out hC1 1 1 rfl (by omega)
     have HVA:=Lib.hid hva
     have HW2:=hW
     clear h44 hva
     go_wp2_with fail
     go_roundw
     case rel => exact ⟨j1+1,false,acc,_,_,_,_,rfl,rfl,rfl,rfl,by omega,by omega,by omega,HVA,HW2,HS⟩
     case measure => simp [slen];omega
    | false =>
     have HRB:Hid (r=.bad):=tabS_nokey HFO.out HR1.out hws.out (.inr h44)
     have hrunt:=upto_ (some ⟨bd,q,none⟩) n2 c2 1 1 rfl (by omega)
     clear h44
     go_wp2_with fail
     refine (newErr_c _ _ _ _ _ (by omega)).mono ?_
     rintro e w4 ⟨⟨v,rfl,hE⟩,hk1⟩
     go_wp2_with fail
     go_ret3
     rw [HRB.out]
     exact PN.errH hW.out.pn hk1 hE hltW (hW.out.fr.kb HROWB.out)
   have e44:((D.c j1:Int) == 44)=false:=beq_eq_false_iff_ne.2 (by omega)
   have hoth:Hid (D.c j1 ≠ 125∧¬ latB D j1∧D.c j1 ≠ 44):=by exact ⟨h125,hnl,h44⟩
   clear h125 hnl hnl' h44
   cases av with
   | true =>
    have HRB:Hid (r=.bad):=tabS_aft HR1.out hws.out ⟨hoth.out.2.2,hoth.out.1⟩ hoth.out.2.1
    have hrunt:=upto_ (some ⟨bd,q,none⟩) n2 c2 1 1 rfl (by omega)
    go_wp2_with fail
    refine (newErr_c _ _ _ _ _ (by omega)).mono ?_
    rintro e w4 ⟨⟨v,rfl,hE⟩,hk1⟩
    go_wp2_with fail
    go_ret3
    rw [HRB.out]
    exact PN.errH hW.out.pn hk1 hE hltW (hW.out.fr.kb HROWB.out)
   | false =>
    have HST:Hid (tabVal D (valP D d) acc (kvR2 D (valP D d) j1)=r):=(tabS_key HFO.out HR1.out hws.out hoth.out.1 hoth.out.2.1).symm
    obtain ⟨rv,hrv⟩:∃ rv,kvR2 D (valP D d) j1=rv:=⟨_,rfl⟩
    rw [hrv] at HST
    have HRV:=Lib.hid hrv
    have hvno:Hid (rv ≠ .opn):=by show _ ≠ _;intro e;apply HNO.out;rw [← HST.out,e];rfl
    have hlen:Hid ((ns++hdNds kvT kvS 7 ns.length acc).length=ns.length+(1+cSize kvS acc)):=by show _=_;rw [List.length_append,hdNds_len chB]
    clear hrv
    go_wp2_with fail
    refine (kv_c D d HVAL.out A _ C bp j1 n2 c2 _ left ndx er _ nst (by exact hW.out.pn) (by rw [hlen.out];omega) HV2.out hd hws.out (by rw [HRV.out];exact hvno.out)).mono ?_
    intro e w4 hpost
    rw [HRV.out] at hpost
    have HPost:=Lib.hid hpost
    clear hpost
    cases rv with
    | opn => exact absurd rfl hvno.out
    | bad =>
     obtain ⟨v,nd5,N5,xs5,rfl,hE,hPI,hKB⟩:=HPost.out
     have HKB:=Lib.hid ((hW.out.fr.kb HROWB.out).trans hKB)
     have HRB:Hid (r=.bad):=by show _=_;rw [← HST.out];rfl
     obtain ⟨bb,rfl⟩:=Err.ptr hE
     have HE:=Lib.hid hE
     have HPI:=Lib.hid hPI
     clear hE hPI hKB
     go_wp2_with fail
     go_ret3
     rw [HRB.out]
     exact ⟨_,_,_,_,rfl,HE.out,HPI.out,HKB.out⟩
    | good tv p =>
     rcases HPost.out with hok | ⟨herr,hctx⟩
     ·obtain ⟨a5,n5,c5,nd5,rfl,hvw5,hP5,hF5⟩:=hok
      have hrg3:=kvR2_sz HFO.out HRV.out
      have hrg:j1<p∧p≤D.n:=⟨hrg3.1,hrg3.2.1⟩
      have hszt:1+tv.1.length+tSize tv.2≤p - j1:=hrg3.2.2
      obtain ⟨t,ht⟩:∃ t,tv.2.under tv.1=t:=⟨_,rfl⟩
      have HS:Hid (tabS D (valP D d) true p (acc++[t]) r):=by rw [← ht];exact HST.out
      rw [hlen.out] at hP5
      have hkt:kvNds (ns.length+(1+cSize kvS acc)) 0 tv.1 tv.2=kvT (ns.length+(1+cSize kvS acc)) 0 t:=by rw [← ht];unfold kvT kvNds;rw [Tree.keys_under,tNds_under]
      have hst:kvS t=1+tv.1.length+tSize tv.2:=by rw [← ht];unfold kvS;rw [Tree.keys_under,tSize_under]
      rw [hkt] at hP5
      rw [← hst] at hszt
      have hl5:Hid ((ns++hdNds kvT kvS 7 ns.length acc++kvT (ns.length+(1+cSize kvS acc)) 0 t).length=ns.length+(1+cSize kvS acc)+kvS t):=by show _=_;rw [List.length_append,hlen.out,chB.len]
      have happ:=app_law chB ns 7 acc t
      have hsn:=lstH_snoc chB ns.length acc t
      have hle:=lstH_le chB ns.length acc
      have hpos:0<kvS t:=chB.pos t
      obtain ⟨h,hh⟩:∃ h,(ns++hdNds kvT kvS 7 ns.length acc).length+1=h:=⟨_,rfl⟩
      rw [hh]
      have hh':h=ns.length+(1+cSize kvS acc)+1:=by rw [← hh,hlen.out]
      have hhb:h≤100000000:=by omega
      rw [← hh',HH.out] at happ
      rw [← hh'] at hsn
      have HAPP:=Lib.hid happ
      have HSN:=Lib.hid hsn
      have HW5:=Lib.hid (hW.out.call hP5 hF5)
      have HVW5:=Lib.hid hvw5
      have hl6:=Nat.le_of_eq hvw5.len
      have hl6':=Nat.le_of_eq hvw5.len.symm
      have hcs:=cSize_snoc (s:=kvS) acc t
      clear hP5 hF5 hvw5 hh hh' ht HPost happ hsn
      go_wp2_with fail
      refine (app109_c D A C bp w.heap.size b7 b8 H (lstH kvS ns.length acc) h _ left nd5 er _ nst (by exact HW5.out.pn) (by rw [hl5.out];omega) (by exact HW5.out.h2) (by exact HW5.out.h7) (by exact HW5.out.h8) (by have:=HW5.out.g;have:=HW5.out.lt;omega) HW5.out.r8 (fun a ha e => by have:=HW5.out.ltA a ha;have:=HW5.out.g;omega) (by omega) (by rw [hl5.out];have:=HH.out;omega) (by rw [hl5.out];omega) (by omega)).mono ?_
      rintro e w6 ⟨rfl,hP6,h86,hk6⟩
      rw [HAPP.out] at hP6
      have HW6:=Lib.hid (HW5.out.app hP6 h86 hk6)
      clear hP6 h86 hk6
      have HW2:Hid (AW D A C bp w nd left er nst w.heap.size b7 b8 H (lstH kvS ns.length (acc++[t])) (ns++hdNds kvT kvS 7 ns.length (acc++[t])) w6 nd5):=by rw [HSN.out];exact HW6.out
      have HVA:=HVW5
      go_wp2_with fail
      go_roundw
      case rel => exact ⟨p,true,acc++[t],_,_,_,_,rfl,rfl,rfl,rfl,by omega,by omega,by rw [hcs];omega,HVA,HW2,HS⟩
      case measure => simp [slen];omega
     ·obtain ⟨v,nd5,N5,xs5,rfl,hE,hPI,hKB⟩:=herr
      have HKB:=Lib.hid ((hW.out.fr.kb HROWB.out).trans hKB)
      have HRB:Hid (r=.bad):=by show _=_;rw [← HST.out];exact tabS_ctx (r:=tabAft D (valP D d) p _) (by exact rfl) hctx
      obtain ⟨bb,rfl⟩:=Err.ptr hE
      have HE:=Lib.hid hE
      have HPI:=Lib.hid hPI
      clear hE hPI hKB
      go_wp2_with fail
      go_ret3
      rw [HRB.out]
      exact ⟨_,_,_,_,rfl,HE.out,HPI.out,HKB.out⟩
end Go.Proofs.YtpgmddjgcgpoeaaGreat
