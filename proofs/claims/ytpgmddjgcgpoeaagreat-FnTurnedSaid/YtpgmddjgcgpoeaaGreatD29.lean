/-
  A part of the proof.
-/
import Derived.Test.YtpgmddjgcgpoeaaGreatD24
import Derived.Test.YtpgmddjgcgpoeaaGreatD16
import Derived.Test.YtpgmddjgcgpoeaaGreatD18
import Derived.Deep.DeepCutAuto
import Derived.Test.YtpgmddjgcgpoeaaGreatD01
import Derived.Test.YtpgmddjgcgpoeaaGreatD06
set_option linter.unusedVariables false
set_option linter.unusedSimpArgs false
set_option maxRecDepth 100000
set_option maxHeartbeats 8000000
namespace Go.Proofs.YtpgmddjgcgpoeaaGreat
open Go.RowKit
theorem VW.cells {D:Doc} {A:Option Addr} {C k n c bd q:Nat} {w:World} (v:VW D A C k (some ⟨bd,q,none⟩) n c) (h:DocAt D A C w) (hk:k<D.n):∀ i,k+i<D.n->w.cell? ⟨bd,q+i,none⟩=some (.int .u8 (D.c (k+i))):=by
 obtain ⟨_,_,e,hb⟩:=v.bytes h hk;injection e with e;injection e with e1 e2;subst e1 e2;exact hb
theorem wpList_app_rd {w:World} {ops:Array Oper} {rest:List Oper} {o:Oper} {a:Act} {Q:Exit->Act->World->Prop} (hgd:o.guard=none) (sl x:Operand)
  (ho:o.op=.call { callee:=.builtin .append,args:=#[sl,x],argTypes:=#[22,22] })
  (base:Nat) (v:Value) (l s:List UInt8) (hs:a.eval sl=v) (hown:OwnB w base v l) {A:Option Addr} {b':Nat} (vx:Value) (hr:Rd w A b' vx s) (hx:a.eval x=vx)
  (hle:l.length+s.length<=4294967296) (hbase:base<=w.heap.size)
  (h:∀ v' w',OwnB w' base v' (l++s)->w.grownBy w' v.ownBlock->wpList Tryz.prog ops Q rest (a.put o.dst v') w'):wpList Tryz.prog ops Q (o :: rest) a w:=by
 obtain ⟨ax,cx,rfl,hc⟩:=hr;by_cases hne:s=[]
 ·subst hne;obtain ⟨i,hi,hz0,hz1,hz2⟩:=info_parts info5;have hll:∀ (x:Addr),(loadCells x 0).run Tryz.prog w=.ok #[] w:=fun x => by simpa using run_loadCells_list (P:=Tryz.prog) w x [] (by simp)
  have key:∀ v',(Builtin.append_ #[22,22] o.type #[v,.slice ax ([]:List UInt8).length cx]).run Tryz.prog w=.ok v' w->v'=v->wpList Tryz.prog ops Q (o :: rest) a w:=by
   intro v' hr hv;subst hv;exact Lib.wpList_append_run w hgd sl x 22 22 ho _ _ hs hx _ _ hr (h _ w (by rw [List.append_nil];exact hown) (World.grownBy.refl _ _))
  refine key v ?_ rfl;rcases hown.2 with ⟨rfl,_⟩ | ⟨g,cap,cur,rfl,_,_,hnc,_⟩
  ·cases ax <;> simp [Builtin.append_,run_underlying Tryz.underlying22,sizeOf,typeInfo,hi,Builtin.lenOf,Builtin.firstCells,hll]
  ·cases ax <;> simp [Builtin.append_,run_underlying Tryz.underlying22,sizeOf,typeInfo,hi,Builtin.lenOf,Builtin.firstCells,hnc,storeCells,hll]
 ·obtain ⟨b,off,rfl,_,_,h3⟩:=hc hne;exact wpList_app_bytes hgd sl x ho base v l s hs hown b off cx hx h3 hle hbase h
theorem Err.ptr {w:World} {base:Nat} {v:Value} (h:Err w base v):∃ b,v=.iface 105 (.pointer (some ⟨b,0,none⟩)):=by
 obtain ⟨b,_,_,_,_,e,_⟩:=h;exact ⟨b,e⟩
theorem esc_past {D:Doc} {k:Nat} (h:D.n<=k):esc D k=.bad:=by unfold esc escB;rw [D.out k h];rfl
theorem besc_c (D:Doc) (A a:Option Addr) (C k n c i:Nat) (pv:Value) (r:R (List UInt8)) (w:World) (hd:DocAt D A C w) (hv:VW D A C k a n c) (hi:1<=i) (hin:i<n) (hr:txtRun D 34 (k+i) (D.sub (k+1) (i - 1))=r) (hno:r ≠ .opn) :
  Calls Tryz.prog 106 #[pv,.slice a n c,.int .i64 i] w (StrPost D A C k c w r):=by
 have hs:=D.small;have hC1:=hd.1;have hC2:=hd.2.1;have hln:=qql hv.len;have hln':=qql hv.len.symm;have hcp:=qql hv.cap;have hcp':=qql hv.cap.symm;obtain ⟨bd,q,rfl,hb⟩:=hv.bytes hd (by omega);clear hb;have HD:=qqh hd;have HV:=qqh hv;have HR0:=qqh hr;have HNO:=qqh hno;obtain ⟨av,hvv,hrunv⟩:=VW.sub HV.out hC1 1 i 1 i rfl rfl (by omega) (by omega);have HVV:=qqh hvv;clear hd hv hr hno hvv;go_enter Tryz.func106,Tryz.ntmps106;go_wp2_with fail
 refine (bend_c D A _ C k n c i _ (by exact HD.out) HV.out (by omega)).mono ?_;rintro e w ⟨rfl,x,rfl,hx⟩;go_upto_if 24 with fail;go_cut [10] (fun v wx => ∃ m:Nat,v=.int .i64 m/\i - 1<=m/\m<=n/\w=wx)
 case first =>
  rcases hx with rfl | ⟨h1,h2⟩
  ·go_wp2_with fail
   go_meet;exact ⟨n - 1,by go_num,by omega,by omega,rfl⟩
  ·have hx0:decide (0<=x)=true:=qqt (by omega);go_wp2_with fail
   go_meet;exact ⟨(x - 1).toNat,by go_num,by omega,by omega,rfl⟩
 case rest =>
  obtain ⟨m,rfl,hm1,hm2,rfl⟩:=hcut;clear hx;go_wp2_with (at_make;refine wpList_makeB w rfl _ _ rfl w.heap.size _ _ (i - 1) m rfl rfl (by omega) rfl hm1 (by omega) (qqr _) ?_)
  intro w1 xs hown1 hg1;have HO1:=qqh hown1;have HG1:=qqh hg1;clear hown1 hg1;go_wp2_with (refine wpList_copyB w1 rfl _ _ rfl w.heap.size w.heap.size (i - 1) m xs (D.sub (k+1) (i - 1)) rfl (by exact HO1.out) A _ 0 _ rfl (Doc.sub_length ..) (Rd.doc HVV.out (HD.out.kp (S:=Nil) ((Kp.refl _ _).grown HG1.out (fun _ h => by cases h)) (fun _ _ h => h)) (i - 1) _ _ (by omega)) ?_)
  intro w2 hown2 hg2;have hO0:=qqh hown2;have hK0:Hid (Kp Nil w w2):=Kp.grown (Kp.grown (Kp.refl _ _) HG1.out (fun _ h => by cases h)) hg2 (fun g hg => .inr (by injection hg with hg;omega));clear hown2 hg2 HO1 HG1 HVV hrunv;go_wp2_with fail
  go_loopw [2,12] (fun x v wr => ∃ (j:Nat) (acc:List UInt8) (sa:Option Addr) (sl sc:Nat),1<=j/\j<=n/\acc.length<=j/\x=.int .i64 j/\v=.slice sa sl sc/\Hid (OwnB wr w.heap.size (.slice sa sl sc) acc)/\Hid (txtRun D 34 (k+j) acc=r)/\Hid (Kp Nil w wr)) (fun x _ _ => n - (intOf x).toNat)
  case atStart => exact ⟨i,D.sub (k+1) (i - 1),_,_,_,hi,by omega,by rw [Doc.sub_length];omega,rfl,rfl,hO0,HR0,hK0⟩
  clear hO0 hK0 HR0
  case round =>
   obtain ⟨j,acc,sa,sl,sc,hj1,hj2,hal,rfl,rfl,hO,HR,hK⟩:=hrel;have HDr:=qqh (HD.out.kp (S:=Nil) hK.out (fun _ _ h => h));have hsz:=hK.out.size;rcases qqg j n with hlt | hge
   ·have b0:=VW.cells HV.out HDr.out (by omega) j (by omega);obtain ⟨asl,hvs,hrun⟩:=VW.sub HV.out hC1 j (j+1) j ((j:Int)+1) rfl (by omega) (by omega) (by omega);clear hvs;have hcl:=D.lt (k+j);by_cases h34:D.c (k+j)=34
    ·have e1:((D.c (k+j):Int) == 34)=true:=(by rw [beq_iff_eq];omega);obtain rfl:R.good acc (k+j+1)=r:=(by rw [<- HR.out];exact (txt_end (by omega) h34).symm);obtain ⟨af,hvf,hrunf⟩:=VW.from_ HV.out hC1 (j+1) ((j:Int)+1) (by omega) (by omega);have hrunt:=upto_ (some ⟨bd,q,none⟩) n c (j+1) ((j:Int)+1) (by omega) (by omega);have HVF:=qqh hvf;clear hvf hrun h34;go_wp2_with fail
     go_quiet (fail)
     go_wp2_with fail
     refine bodyPost_ret (results_tmp4 rfl _ _ _) rfl ?_;exact ⟨hK.out.drewN _,_,_,_,_,_,rfl_str (by omega),Rd.own (hO.out.drewN _),HVF.out⟩
    ·have e1:((D.c (k+j):Int) == 34)=false:=qqn (by omega);by_cases h92:D.c (k+j)=92
     ·have e92:((D.c (k+j):Int) == 92)=true:=(by rw [beq_iff_eq];omega);have hst:Hid (r=match esc D (k+(j+1)) with | .good l k' => txtRun D 34 k' (acc++l) | .bad => .bad | .opn => .opn):=by
       show _=_;rw [<- HR.out];exact txt_esc (by omega) h34 ⟨h92,rfl⟩
      clear h34 h92;rcases qqg (j+1) n with hl1 | hl1
      ·obtain ⟨er,her⟩:∃ er,esc D (k+(j+1))=er:=⟨_,rfl⟩;have hesn:esc D (k+(j+1)) ≠ .opn:=by
        intro h;have h1:=hst.out;rw [h] at h1;exact HNO.out h1
       have HEN:=qqh hesn;have HER:=qqh her;clear hesn her hrun;go_wp2_with fail
       refine (unesc_c D A _ C k n c (j+1) w.heap.size _ acc _ (by exact HDr.out) HV.out (by omega) hl1 (by exact hO.out) (by omega) (by omega) HEN.out).mono ?_;intro e w3 hup;rw [HER.out] at hup;have HUP:=qqh hup;clear hup;cases er with
       | good s p =>
        have hin:=esc_in D _ _ _ HER.out;have hel:=esc_len D _ _ _ HER.out;obtain ⟨⟨v',rfl,hown3⟩,hk3⟩:=HUP.out;obtain ⟨sa',sl',sc',rfl⟩:=IsSl.own hown3;have hO3:=qqh hown3;have hK3:Hid (Kp Nil w w3):=Kp.then hK.out hk3 (fun g hg => .inr (by have:=hO.out.lt g hg.symm;omega));have hR3:Hid (txtRun D 34 p (acc++s)=r):=(by show _=_;rw [hst.out,HER.out]);obtain ⟨p',rfl⟩:∃ p',p=k+p':=⟨p - k,by omega⟩;rw [show k+p' - k=p' by omega];clear hown3 hk3;go_wp2_with fail
        go_roundw
        case rel => exact ⟨p',acc++s,sa',sl',sc',by omega,by omega,by rw [qqa];omega,rfl,rfl,hO3,hR3,hK3⟩
        case measure => simp [intOf];omega
       | bad =>
        obtain ⟨⟨v,rfl,hE⟩,hk1⟩:=HUP.out;obtain rfl:R.bad=r:=(by rw [hst.out,HER.out]);obtain ⟨b,rfl⟩:=Err.ptr hE;have HE:=qqh hE;clear hE;go_wp2_with fail
        refine bodyPost_ret (results_tmp4 rfl _ _ _) rfl ?_;exact ⟨⟨_,rfl,Err.mono HE.out (by omega)⟩,Kp.trans hK.out hk1⟩
       | opn => exact absurd HER.out HEN.out
      ·obtain rfl:R.bad=r:=(by rw [hst.out,esc_past (by omega)]);obtain ⟨af,hvf,hrunf⟩:=VW.from_ HV.out hC1 j ((j:Int)+1 - 1) (by omega) (by omega);clear hvf hrun;go_wp2_with fail
       refine (newErr_c _ _ _ _ _ (by omega)).mono ?_;rintro e w1 ⟨⟨v,rfl,hE⟩,hk1⟩;go_wp2_with fail
       refine bodyPost_ret (results_tmp4 rfl _ _ _) rfl ?_;exact ⟨⟨_,rfl,Err.mono hE (by have:=hK.out.size;simp;omega)⟩,Kp.trans hK.out hk1⟩
     ·have e92:((D.c (k+j):Int) == 92)=false:=qqn (by omega);rcases qqg (D.c (k+j)) 128 with hc | hc
      ·obtain ⟨x0,h0⟩:∃ x,UInt8.ofNat (D.c (k+j))=x:=⟨_,rfl⟩;have t0:x0.toNat=D.c (k+j):=(by rw [<- h0];exact Doc.toNat_ofNat ..);have T0:=qqh t0;have hstep:∀ (h1:sg D (k+j)=1),Hid (txtRun D 34 (k+(j+1)) (acc++[x0])=r):=by
        intro h1;show _=_;rw [<- HR.out,txt_one (p:=k+j) (by omega) h1 h34 (fun h => h92 h.1),sub_one D (k+j) _ rfl,h0];rfl
       clear t0 h0;by_cases hpl:32<=D.c (k+j)/\D.c (k+j)<127
       ·have e2:decide (32<=(D.c (k+j):Int))=true:=qqt (by omega);have e3:decide ((D.c (k+j):Int)<127)=true:=qqt (by omega);have HN:=hstep (sg_plain hpl);clear hpl hc hrun hstep h34 h92;go_wp2_with (at_builtin;refine wpList_app_bytes rfl _ _ rfl w.heap.size _ acc [x0] rfl (by exact own_alloc hO.out _) wr.heap.size 0 _ rfl ?c1 ?c2 ?c3 ?_)
        case c1 =>
         intro t ht;rw [cell_newI (by simp)]
         match t,ht with
         | 0,_ => simp [T0.out]
        case c2 => simp;omega
        case c3 => simp;omega
        intro v' w3 hown3 hg3;obtain ⟨sa',sl',sc',rfl⟩:=IsSl.own hown3;have hO3:=qqh hown3;have hK3:Hid (Kp Nil w w3):=Kp.grown (Kp.alloc hK.out _) hg3 (fun g hg => .inr (by have:=hO.out.lt g hg;omega));clear hown3 hg3;go_wp2_with fail
        go_roundw
        case rel => exact ⟨j+1,acc++[x0],sa',sl',sc',by omega,by omega,by rw [qqa,List.length_singleton];omega,by go_num,rfl,hO3,HN,hK3⟩
        case measure => simp [intOf];omega
       ·by_cases h9:D.c (k+j)=9
        ·have e2:decide (32<=(D.c (k+j):Int))=false:=qqf (by omega);have e4:((D.c (k+j):Int) == 9)=true:=(by rw [beq_iff_eq];omega);have HN:=hstep (sg_tab h9);clear hpl hc hrun hstep h34 h92 h9;go_wp2_with (at_builtin;refine wpList_app_bytes rfl _ _ rfl w.heap.size _ acc [x0] rfl (by exact own_alloc hO.out _) wr.heap.size 0 _ rfl ?c1 ?c2 ?c3 ?_)
         case c1 =>
          intro t ht;rw [cell_newI (by simp)]
          match t,ht with
          | 0,_ => simp [T0.out]
         case c2 => simp;omega
         case c3 => simp;omega
         intro v' w3 hown3 hg3;obtain ⟨sa',sl',sc',rfl⟩:=IsSl.own hown3;have hO3:=qqh hown3;have hK3:Hid (Kp Nil w w3):=Kp.grown (Kp.alloc hK.out _) hg3 (fun g hg => .inr (by have:=hO.out.lt g hg;omega));clear hown3 hg3;go_wp2_with fail
         go_roundw
         case rel => exact ⟨j+1,acc++[x0],sa',sl',sc',by omega,by omega,by rw [qqa,List.length_singleton];omega,by go_num,rfl,hO3,HN,hK3⟩
         case measure => simp [intOf];omega
        ·have e4:((D.c (k+j):Int) == 9)=false:=qqn (by omega);obtain rfl:R.bad=r:=(by rw [<- HR.out];exact (txt_bad (by omega) h34 (fun h => h92 h.1) (sg_low hc (by omega))).symm);clear hstep;by_cases h10:D.c (k+j)=10
         ·have e2:decide (32<=(D.c (k+j):Int))=false:=qqf (by omega);have e5:((D.c (k+j):Int) == 10)=true:=(by rw [beq_iff_eq];omega);clear h34 h92 hpl h9 h10 hc;go_wp2_with fail
          refine (newErr_c _ _ _ _ _ (by omega)).mono ?_;rintro e w1 ⟨⟨v,rfl,hE⟩,hk1⟩;go_wp2_with fail
          refine bodyPost_ret (results_tmp4 rfl _ _ _) rfl ?_;exact ⟨⟨_,rfl,Err.mono hE (by have:=hK.out.size;simp;omega)⟩,Kp.trans hK.out hk1⟩
         ·have e5:((D.c (k+j):Int) == 10)=false:=qqn (by omega);by_cases h13:D.c (k+j)=13
          ·have e2:decide (32<=(D.c (k+j):Int))=false:=qqf (by omega);have e6:((D.c (k+j):Int) == 13)=true:=(by rw [beq_iff_eq];omega);clear h34 h92 hpl h9 h10 h13 hc;go_wp2_with fail
           refine (newErr_c _ _ _ _ _ (by omega)).mono ?_;rintro e w1 ⟨⟨v,rfl,hE⟩,hk1⟩;go_wp2_with fail
           refine bodyPost_ret (results_tmp4 rfl _ _ _) rfl ?_;exact ⟨⟨_,rfl,Err.mono hE (by have:=hK.out.size;simp;omega)⟩,Kp.trans hK.out hk1⟩
          ·have e6:((D.c (k+j):Int) == 13)=false:=qqn (by omega);have e7:decide ((D.c (k+j):Int)<128)=true:=qqt (by omega);rcases qqg (D.c (k+j)) 32 with h | h
           ·have e2:decide (32<=(D.c (k+j):Int))=false:=qqf (by omega);clear h34 h92 hpl h9 h10 h13 hc;go_wp2_with fail
            refine (newErr_c _ _ _ _ _ (by omega)).mono ?_;rintro e w1 ⟨⟨v,rfl,hE⟩,hk1⟩;go_wp2_with fail
            refine bodyPost_ret (results_tmp4 rfl _ _ _) rfl ?_;exact ⟨⟨_,rfl,Err.mono hE (by have:=hK.out.size;simp;omega)⟩,Kp.trans hK.out hk1⟩
           ·have e2:decide (32<=(D.c (k+j):Int))=true:=qqt (by omega);have e3:decide ((D.c (k+j):Int)<127)=false:=qqf (by omega);clear h34 h92 hpl h9 h10 h13 hc;go_wp2_with fail
            refine (newErr_c _ _ _ _ _ (by omega)).mono ?_;rintro e w1 ⟨⟨v,rfl,hE⟩,hk1⟩;go_wp2_with fail
            refine bodyPost_ret (results_tmp4 rfl _ _ _) rfl ?_;exact ⟨⟨_,rfl,Err.mono hE (by have:=hK.out.size;simp;omega)⟩,Kp.trans hK.out hk1⟩
      ·have e2:decide (32<=(D.c (k+j):Int))=true:=qqt (by omega);have e3:decide ((D.c (k+j):Int)<127)=false:=qqf (by omega);have e4:((D.c (k+j):Int) == 9)=false:=qqn (by omega);have e5:((D.c (k+j):Int) == 10)=false:=qqn (by omega);have e6:((D.c (k+j):Int) == 13)=false:=qqn (by omega);have e7:decide ((D.c (k+j):Int)<128)=false:=qqf (by omega);have hu:=txt_utf D 34 (by omega) _ (k+j) acc rfl;have hug:=utf_ge D _ (k+j) rfl;cases hu2:(utf D (k+j)).2 with
       | true =>
        have hgt:=utf_gt (j:=k+j) (by omega) hc hu2;rw [hu2,if_pos rfl] at hu;have HU:=qqh hu;have HU2:=qqh hu2;have hle:=hug.2 (by omega);obtain ⟨p,hp⟩:∃ p,(utf D (k+j)).1=p:=⟨_,rfl⟩;rw [hp] at hgt hle;have HP:=qqh hp;obtain ⟨asl2,hvs2,hrun2⟩:=VW.sub HV.out hC1 j (p - k) j ((p - k:Nat):Int) rfl rfl (by omega) (by omega);have HVS:=qqh hvs2;obtain ⟨i2,hi2'⟩:∃ i2,p - k=i2:=⟨_,rfl⟩;rw [hi2'] at hrun2;have hi3:j<i2/\i2<=n:=(by omega);have HI2:=qqh hi2';have hrd:Hid (Rd wr A w.heap.size (.slice asl2 (i2 - j) (c - j)) (D.sub (k+j) (i2 - j))):=Rd.doc HVS.out HDr.out (i2 - j) _ _ (by omega);have HN:Hid (txtRun D 34 (k+i2) (acc++D.sub (k+j) (i2 - j))=r):=by
         show _=_;rw [<- HR.out,HU.out,HP.out,show k+i2=p by omega]
         congr 3
         omega
        clear hu hu2 hp hug hrun hc hvs2 hi2' h34 h92 HVS hgt hle;go_wp2_with fail
        refine (utf_c D A _ C k n c j _ (by exact HDr.out) HV.out (by omega)).mono ?_;rintro e wr ⟨rfl,rfl⟩;rw [HU2.out,HP.out,HI2.out];clear HU HU2 HP HI2;go_wp2_with (at_builtin;refine wpList_app_rd rfl _ _ rfl w.heap.size _ acc (D.sub (k+j) (i2 - j)) rfl (by exact hO.out) _ (by exact hrd.out) rfl (by rw [Doc.sub_length];omega) (by omega) ?_)
        intro v' w3 hown3 hg3;obtain ⟨sa',sl',sc',rfl⟩:=IsSl.own hown3;have hO3:=qqh hown3;have hK3:Hid (Kp Nil w w3):=Kp.grown hK.out hg3 (fun g hg => .inr (by have:=hO.out.lt g hg;omega));clear hown3 hg3;go_wp2_with fail
        go_roundw
        case rel => exact ⟨i2,acc++D.sub (k+j) (i2 - j),sa',sl',sc',by omega,by omega,by rw [qqa,Doc.sub_length];omega,rfl,rfl,hO3,HN,hK3⟩
        case measure => simp [intOf];omega
       | false =>
        rw [hu2,if_neg (by simp)] at hu;obtain rfl:R.bad=r:=hu.symm.trans HR.out;have HU2:=qqh hu2;clear hu hu2 hug hc h34 h92;go_wp2_with fail
        refine (utf_c D A _ C k n c j _ (by exact HDr.out) HV.out (by omega)).mono ?_;rintro e wr ⟨rfl,rfl⟩;rw [HU2.out];go_wp2_with fail
        refine (newErr_c _ _ _ _ _ (by omega)).mono ?_;rintro e w1 ⟨⟨v,rfl,hE⟩,hk1⟩;go_wp2_with fail
        refine bodyPost_ret (results_tmp4 rfl _ _ _) rfl ?_;exact ⟨⟨_,rfl,Err.mono hE (by have:=hK.out.size;simp;omega)⟩,Kp.trans hK.out hk1⟩
   ·obtain rfl:j=n:=(by omega);obtain ⟨af,hvf,hrunf⟩:=VW.from_ HV.out hC1 j j rfl (by omega);obtain rfl:R.bad=r:=(by rw [<- HR.out];exact (txt_stop (by omega)).symm);clear hvf;go_wp2_with fail
    refine (newErr_c _ _ _ _ _ (by omega)).mono ?_;rintro e w1 ⟨⟨v,rfl,hE⟩,hk1⟩;go_wp2_with fail
    refine bodyPost_ret (results_tmp4 rfl _ _ _) rfl ?_;exact ⟨⟨_,rfl,Err.mono hE (by have:=hK.out.size;simp;omega)⟩,Kp.trans hK.out hk1⟩
theorem basic_c (D:Doc) (A a:Option Addr) (C k n c:Nat) (pv:Value) (w:World) (hd:DocAt D A C w) (hv:VW D A C k a n c) (hk:k<D.n) (hno:txt D 34 k ≠ .opn) :
  Calls Tryz.prog 95 #[pv,.slice a n c] w (StrPost D A C k c w (txt D 34 k)):=by
 have hs:=D.small;have hC1:=hd.1;have hC2:=hd.2.1;have hln:=qql hv.len;have hln':=qql hv.len.symm;have hcp:=qql hv.cap;have hcp':=qql hv.cap.symm;obtain ⟨bd,q,rfl,hb⟩:=hv.bytes hd hk;obtain ⟨r,hr⟩:∃ r,txt D 34 k=r:=⟨_,rfl⟩;have HR1:Hid (txtRun D 34 (k+1) (D.sub (k+1) (1 - 1))=r):=by show _=_;rw [<- hr];rfl
 rw [hr] at hno ⊢;have HNO:=qqh hno;have HB:=qqh hb;have HD:=qqh hd;have HV:=qqh hv;clear hb hd hv hr hno;go_enter Tryz.func95,Tryz.ntmps95;go_wp2_with fail
 go_loopw [8] (fun x wr => ∃ (j m:Nat),1<=j/\j<=n/\x=.int .i64 j/\Hid (txtRun D 34 (k+j) (D.sub (k+1) (j - 1))=r)/\wr=w.drewN m) (fun x _ => n - (intOf x).toNat)
 case atStart => exact ⟨1,0,by omega,by omega,rfl,HR1,rfl⟩
 case round =>
  obtain ⟨j,m,hj1,hj,rfl,HR,rfl⟩:=hrel
  go_upto_block 2 with fail
  go_cut [8] (fun x wx => ∃ (j' m':Nat),j<=j'/\j'<=n/\x=.int .i64 j'/\Hid (txtRun D 34 (k+j') (D.sub (k+1) (j' - 1))=r)/\wx=w.drewN m')
  case first =>
   go_wp2_with fail
   go_loopw [8] (fun x wr => ∃ (j' m':Nat),j<=j'/\j'<=n/\x=.int .i64 j'/\Hid (txtRun D 34 (k+j') (D.sub (k+1) (j' - 1))=r)/\wr=w.drewN m') (fun x _ => n - (intOf x).toNat)
   case atStart => exact ⟨j,m,by omega,by omega,rfl,HR,rfl⟩
   case round =>
    obtain ⟨i,m1,hi1,hi2,rfl,HRi,rfl⟩:=hrel;rcases qqg n (i+8) with h8 | h8
    ·go_wp2_with fail
     go_meet;exact ⟨i,m1,by omega,by omega,rfl,HRi,rfl⟩
    ·obtain ⟨a',hva,hrun⟩:=VW.from_ HV.out hC1 i i rfl (by omega);have HVA:=qqh hva;clear hva;have hl8:=le8_lt D (k+i);obtain ⟨X,hX⟩:∃ X,le8 D (k+i)=X:=⟨_,rfl⟩;rw [hX] at hl8;have HX:=qqh hX;have ht:=test5 X (hbb X 32) (hbe X 34) (hbe X 92) (hbe X 127) hl8 (hbb_lt _ _) (hbe_lt _ _) (hbe_lt _ _) (hbe_lt _ _);clear hX;by_cases hp:X &&& 9259542123273814144=0/\hbb X 32=0/\hbe X 34=0/\hbe X 92=0/\hbe X 127=0
     ·rw [qqt hp,Bool.not_true] at ht;have HP:=qqh hp;clear hp;go_wp2_with fail
      refine (le8_c D A a' C (k+i) (n - i) (c - i) _ (by exact HD.out) HVA.out (by omega)).mono ?_;rintro e w1 ⟨rfl,m2,rfl⟩;rw [HX.out];go_wp2_with (first
       | ((with_reducible refine (hbb_32 X hl8 _).mono ?_);rintro e w1 ⟨rfl,rfl⟩)
       | ((with_reducible refine (hbe_34 X hl8 _).mono ?_);rintro e w1 ⟨rfl,rfl⟩)
       | ((with_reducible refine (hbe_92 X hl8 _).mono ?_);rintro e w1 ⟨rfl,rfl⟩)
       | ((with_reducible refine (hbe_127 X hl8 _).mono ?_);rintro e w1 ⟨rfl,rfl⟩))
      go_roundw
      case rel => exact ⟨i+8,_,by omega,by omega,by go_num,by
       show _=_
       rw [<- HRi.out]
       refine Eq.symm ((txt_plain (p:=k+i) 8 (by omega) ?_).trans ?_)
       ·have hh:=HP.out
        rw [<- HX.out] at hh
        intro t ht
        exact ⟨plain8 D (k+i) hh.1 hh.2.1 hh.2.2.2.2 t ht,other8 D (k+i) 34 (by omega) hh.1 hh.2.2.1 t ht,fun _ => other8 D (k+i) 92 (by omega) hh.1 hh.2.2.2.1 t ht⟩
       ·rw [show k+i=k+1+(i - 1) by omega,<- Doc.sub_add,show k+1+(i - 1)+8=k+(i+8) by omega,show i - 1+8=i+8 - 1 by omega],rfl⟩
      case measure => simp [intOf];omega
     ·rw [qqf hp,Bool.not_false] at ht;clear hp;go_wp2_with fail
      refine (le8_c D A a' C (k+i) (n - i) (c - i) _ (by exact HD.out) HVA.out (by omega)).mono ?_;rintro e w1 ⟨rfl,m2,rfl⟩;rw [HX.out];go_wp2_with (first
       | ((with_reducible refine (hbb_32 X hl8 _).mono ?_);rintro e w1 ⟨rfl,rfl⟩)
       | ((with_reducible refine (hbe_34 X hl8 _).mono ?_);rintro e w1 ⟨rfl,rfl⟩)
       | ((with_reducible refine (hbe_92 X hl8 _).mono ?_);rintro e w1 ⟨rfl,rfl⟩)
       | ((with_reducible refine (hbe_127 X hl8 _).mono ?_);rintro e w1 ⟨rfl,rfl⟩))
      go_meet;exact ⟨i,_,by omega,by omega,rfl,HRi,rfl⟩
  case rest =>
   obtain ⟨i,m1,hi1,hi2,rfl,HRi,rfl⟩:=hcut;rcases qqg i n with hlt2 | hge2
   ·have b0:=HB.out i (by omega);obtain ⟨asl,hvs,hrun⟩:=VW.sub HV.out hC1 i (i+1) i ((i:Int)+1) rfl (by omega) (by omega) (by omega);have hcl:=D.lt (k+i);rcases qqg (D.c (k+i)) 128 with hc | hc
    ·have hstep:∀ (h1:sg D (k+i)=1) (h2:D.c (k+i) ≠ 34) (h3:D.c (k+i) ≠ 92),Hid (txtRun D 34 (k+(i+1)) (D.sub (k+1) (i+1 - 1))=r):=by
      intro h1 h2 h3;show _=_;rw [<- HRi.out,txt_one (p:=k+i) (by omega) h1 h2 (fun h => h3 h.1),show k+i=k+1+(i - 1) by omega,<- Doc.sub_add,show k+1+(i - 1)+1=k+(i+1) by omega,show i - 1+1=i+1 - 1 by omega]
     by_cases h34:D.c (k+i)=34
     ·have e1:((D.c (k+i):Int) == 34)=true:=(by rw [beq_iff_eq];omega);obtain rfl:R.good (D.sub (k+1) (i - 1)) (k+i+1)=r:=(by rw [<- HRi.out];exact (txt_end (by omega) h34).symm);obtain ⟨af,hvf,hrunf⟩:=VW.from_ HV.out hC1 (i+1) ((i:Int)+1) (by omega) (by omega);have hrunt:=upto_ (some ⟨bd,q,none⟩) n c (i+1) ((i:Int)+1) (by omega) (by omega);obtain ⟨av,hvv,hrunv⟩:=VW.sub HV.out hC1 1 i 1 i rfl rfl (by omega) (by omega);have HVF:=qqh hvf;have HVV:=qqh hvv;clear hvf hvv hvs hrun hstep h34 hc;go_wp2_with fail
      go_quiet (fail)
      go_wp2_with fail
      refine bodyPost_ret (results_tmp4 rfl _ _ _) rfl ?_;refine ⟨((Kp.refl _ _).drewN _).drewN _,_,_,_,_,_,rfl_str (by omega),Rd.doc HVV.out (HD.out.kp (S:=Nil) (((Kp.refl _ _).drewN m1).drewN _) (fun _ _ h => h)) (i - 1) _ _ (by omega),HVF.out⟩
     ·have e1:((D.c (k+i):Int) == 34)=false:=qqn (by omega);by_cases h92:D.c (k+i)=92
      ·have e92:((D.c (k+i):Int) == 92)=true:=(by rw [beq_iff_eq];omega);clear hstep hvs hrun h34 h92 hc;go_wp2_with fail
       refine (besc_c D A _ C k n c i pv r _ (by exact HD.out.kp (S:=Nil) ((Kp.refl _ _).drewN m1) (fun _ _ h => h)) HV.out (by omega) (by omega) HRi.out HNO.out).mono ?_;intro e w1 hpost;have HPost:=qqh hpost;clear hpost;cases r with
       | good l p =>
        obtain ⟨hk1,a0,v,a1,n1,c1,rfl,hrd,hvw⟩:=HPost.out;have HRD:=qqh hrd;have HVW:=qqh hvw;have HK1:=qqh hk1;obtain ⟨va,vc,hve,hvl⟩:=HRD.out;subst hve;clear hrd hvw hvl hk1;go_wp2_with fail
        refine bodyPost_ret (results_tmp4 rfl _ _ _) rfl ?_;exact ⟨Kp.trans ((Kp.refl _ _).drewN m1) HK1.out,_,_,_,_,_,rfl,HRD.out.mono (qqr _),HVW.out⟩
       | bad =>
        obtain ⟨⟨v,rfl,hE⟩,hk1⟩:=HPost.out;go_wp2_with fail
        refine bodyPost_ret (results_tmp4 rfl _ _ _) rfl ?_;exact ⟨⟨_,rfl,Err.mono hE (qqr _)⟩,Kp.trans ((Kp.refl _ _).drewN m1) hk1⟩
       | opn => exact absurd rfl HNO.out
      have e92:((D.c (k+i):Int) == 92)=false:=qqn (by omega);by_cases hpl:32<=D.c (k+i)/\D.c (k+i)<127
      ·have e2:decide (32<=(D.c (k+i):Int))=true:=qqt (by omega);have e3:decide ((D.c (k+i):Int)<127)=true:=qqt (by omega);have HN:=hstep (sg_plain hpl) h34 h92;clear hpl hc hrun hstep h34 h92 hvs;go_wp2_with fail
       go_roundw
       case rel => exact ⟨i+1,m1,by omega,by omega,by go_num,HN,rfl⟩
       case measure => simp [intOf];omega
      ·by_cases h9:D.c (k+i)=9
       ·have e2:decide (32<=(D.c (k+i):Int))=false:=qqf (by omega);have e4:((D.c (k+i):Int) == 9)=true:=(by rw [beq_iff_eq];omega);have HN:=hstep (sg_tab h9) h34 h92;clear hpl hc hrun hstep h34 h92 hvs h9;go_wp2_with fail
        go_roundw
        case rel => exact ⟨i+1,m1,by omega,by omega,by go_num,HN,rfl⟩
        case measure => simp [intOf];omega
       ·have e4:((D.c (k+i):Int) == 9)=false:=qqn (by omega);obtain rfl:R.bad=r:=(by rw [<- HRi.out];exact (txt_bad (by omega) h34 (fun h => h92 h.1) (sg_low hc (by omega))).symm);clear hstep hvs;by_cases h10:D.c (k+i)=10
        ·have e2:decide (32<=(D.c (k+i):Int))=false:=qqf (by omega);have e5:((D.c (k+i):Int) == 10)=true:=(by rw [beq_iff_eq];omega);clear h34 h92 hpl h9 h10 hc;go_wp2_with fail
         refine (newErr_c _ _ _ _ _ (by omega)).mono ?_;rintro e w1 ⟨⟨v,rfl,hE⟩,hk1⟩;go_wp2_with fail
         refine bodyPost_ret (results_tmp4 rfl _ _ _) rfl ?_;exact ⟨⟨_,rfl,Err.mono hE (by simp)⟩,Kp.trans ((Kp.refl _ _).drewN _) hk1⟩
        ·have e5:((D.c (k+i):Int) == 10)=false:=qqn (by omega);by_cases h13:D.c (k+i)=13
         ·have e2:decide (32<=(D.c (k+i):Int))=false:=qqf (by omega);have e6:((D.c (k+i):Int) == 13)=true:=(by rw [beq_iff_eq];omega);clear h34 h92 hpl h9 h10 h13 hc;go_wp2_with fail
          refine (newErr_c _ _ _ _ _ (by omega)).mono ?_;rintro e w1 ⟨⟨v,rfl,hE⟩,hk1⟩;go_wp2_with fail
          refine bodyPost_ret (results_tmp4 rfl _ _ _) rfl ?_;exact ⟨⟨_,rfl,Err.mono hE (by simp)⟩,Kp.trans ((Kp.refl _ _).drewN _) hk1⟩
         ·have e6:((D.c (k+i):Int) == 13)=false:=qqn (by omega);have e7:decide ((D.c (k+i):Int)<128)=true:=qqt (by omega);rcases qqg (D.c (k+i)) 32 with h | h
          ·have e2:decide (32<=(D.c (k+i):Int))=false:=qqf (by omega);clear h34 h92 hpl h9 h10 h13 hc;go_wp2_with fail
           refine (newErr_c _ _ _ _ _ (by omega)).mono ?_;rintro e w1 ⟨⟨v,rfl,hE⟩,hk1⟩;go_wp2_with fail
           refine bodyPost_ret (results_tmp4 rfl _ _ _) rfl ?_;exact ⟨⟨_,rfl,Err.mono hE (by simp)⟩,Kp.trans ((Kp.refl _ _).drewN _) hk1⟩
          ·have e2:decide (32<=(D.c (k+i):Int))=true:=qqt (by omega);have e3:decide ((D.c (k+i):Int)<127)=false:=qqf (by omega);clear h34 h92 hpl h9 h10 h13 hc;go_wp2_with fail
           refine (newErr_c _ _ _ _ _ (by omega)).mono ?_;rintro e w1 ⟨⟨v,rfl,hE⟩,hk1⟩;go_wp2_with fail
           refine bodyPost_ret (results_tmp4 rfl _ _ _) rfl ?_;exact ⟨⟨_,rfl,Err.mono hE (by simp)⟩,Kp.trans ((Kp.refl _ _).drewN _) hk1⟩
    ·have e1:((D.c (k+i):Int) == 34)=false:=qqn (by omega);have e92:((D.c (k+i):Int) == 92)=false:=qqn (by omega);have e2:decide (32<=(D.c (k+i):Int))=true:=qqt (by omega);have e3:decide ((D.c (k+i):Int)<127)=false:=qqf (by omega);have e4:((D.c (k+i):Int) == 9)=false:=qqn (by omega);have e5:((D.c (k+i):Int) == 10)=false:=qqn (by omega);have e6:((D.c (k+i):Int) == 13)=false:=qqn (by omega);have e7:decide ((D.c (k+i):Int)<128)=false:=qqf (by omega);have hu:=txt_utf D 34 (by omega) _ (k+i) (D.sub (k+1) (i - 1)) rfl;have hug:=utf_ge D _ (k+i) rfl;cases hu2:(utf D (k+i)).2 with
     | true =>
      have hgt:=utf_gt (j:=k+i) (by omega) hc hu2;rw [hu2,if_pos rfl] at hu;have HU:=qqh hu;have HU2:=qqh hu2;have hle:=hug.2 (by omega);obtain ⟨p,hp⟩:∃ p,(utf D (k+i)).1=p:=⟨_,rfl⟩;rw [hp] at hgt hle;have HP:=qqh hp;clear hu hu2 hp hug hrun hc hvs;go_wp2_with fail
      refine (utf_c D A _ C k n c i _ (by exact HD.out) HV.out (by omega)).mono ?_;rintro e w1 ⟨rfl,rfl⟩;rw [HU2.out,HP.out];go_wp2_with fail
      go_roundw
      case rel => exact ⟨p - k,m1,by omega,by omega,rfl,by
       show _=_
       rw [<- HRi.out,HU.out,HP.out,show k+(p - k)=p by omega]
       congr 1
       rw [show p - k - 1=(i - 1)+(p - (k+i)) by omega,Doc.sub_add,show k+1+(i - 1)=k+i by omega],rfl⟩
      case measure => simp [intOf];omega
     | false =>
      rw [hu2,if_neg (by simp)] at hu;obtain rfl:R.bad=r:=hu.symm.trans HRi.out;have hlt9:=utf_false (j:=k+i) hu2;have HU2:=qqh hu2;have hge9:=hug.1;obtain ⟨p,hp⟩:∃ p,(utf D (k+i)).1=p:=⟨_,rfl⟩;rw [hp] at hlt9 hge9;have HP:=qqh hp;obtain ⟨asl2,hvs2,hrun2⟩:=VW.sub HV.out hC1 (p - k) (p - k+1) ((p - k:Nat):Int) (((p - k:Nat):Int)+1) rfl (by omega) (by omega) (by omega);obtain ⟨i2,hi2'⟩:∃ i2,p - k=i2:=⟨_,rfl⟩;rw [hi2'] at hrun2;have hi3:k+i2<D.n:=(by omega);have HI2:=qqh hi2';clear hu hu2 hp hug hrun hc hvs2 hi2' hvs;go_wp2_with fail
      refine (utf_c D A _ C k n c i _ (by exact HD.out) HV.out (by omega)).mono ?_;rintro e w1 ⟨rfl,rfl⟩;rw [HU2.out,HP.out,HI2.out];go_wp2_with fail
      refine (newErr_c _ _ _ _ _ (by omega)).mono ?_;rintro e w1 ⟨⟨v,rfl,hE⟩,hk1⟩;go_wp2_with fail
      refine bodyPost_ret (results_tmp4 rfl _ _ _) rfl ?_;exact ⟨⟨_,rfl,Err.mono hE (by simp)⟩,Kp.trans ((Kp.refl _ _).drewN _) hk1⟩
   ·obtain rfl:i=n:=(by omega);obtain ⟨af,hvf,hrunf⟩:=VW.from_ HV.out hC1 i i rfl (by omega);obtain rfl:R.bad=r:=(by rw [<- HRi.out];exact (txt_stop (by omega)).symm);clear hvf;go_wp2_with fail
    refine (newErr_c _ _ _ _ _ (by omega)).mono ?_;rintro e w1 ⟨⟨v,rfl,hE⟩,hk1⟩;go_wp2_with fail
    refine bodyPost_ret (results_tmp4 rfl _ _ _) rfl ?_;exact ⟨⟨_,rfl,Err.mono hE (by simp)⟩,Kp.trans ((Kp.refl _ _).drewN _) hk1⟩
theorem bare113_c (x:Nat) (w:World):Calls Tryz.prog 113 #[.int .u8 x] w fun e w' => e=.returned (.bool (bareB x))/\w'=w:=by
 go_enter Tryz.func113,Tryz.ntmps113;go_wp2_with fail
 all_goals (go_ret;refine ⟨ret_bool ?_,rfl⟩;unfold bareB)
 all_goals first | (rw [eq_comm,decide_eq_true_iff];omega) | (rw [eq_comm,decide_eq_false_iff_not];omega) | (rw [Bool.eq_iff_iff];simp;omega)
def skP (D:Doc) (k:Nat):R (List UInt8) :=
 if D.c k=39 then txt D 39 k else if D.c k=34 then txt D 34 k
 else if bareB (D.c k)=true then .good (D.sub k (bareEnd D k - k)) (bareEnd D k) else .bad
theorem sk_c (D:Doc) (A a:Option Addr) (C k n c:Nat) (pv:Value) (w:World) (hd:DocAt D A C w) (hv:VW D A C k a n c) (hno:skP D k ≠ .opn) :
  Calls Tryz.prog 104 #[pv,.slice a n c] w (StrPost D A C k c w (skP D k)):=by
 have hs:=D.small;have hC1:=hd.1;have hC2:=hd.2.1;have hln:=qql hv.len;have hln':=qql hv.len.symm;have hcp:=qql hv.cap;have hcp':=qql hv.cap.symm;have HD:=qqh hd;have HV:=qqh hv;obtain ⟨r,hr⟩:∃ r,skP D k=r:=⟨_,rfl⟩;rw [hr] at hno ⊢;have HR:=qqh hr;have HNO:=qqh hno;clear hd hv hr hno;go_enter Tryz.func104,Tryz.ntmps104;rcases Nat.eq_zero_or_pos n with h0 | h0
 ·obtain rfl:=h0;obtain rfl:R.bad=r:=by rw [<- HR.out];unfold skP;rw [D.out k (by omega)];rfl
  go_wp2_with fail
  refine (newErr_c _ _ _ _ _ (by omega)).mono ?_;rintro e w1 ⟨⟨v,rfl,hE⟩,hk1⟩;go_wp2_with fail
  refine bodyPost_ret (results_tmp4 rfl _ _ _) rfl ?_;exact ⟨⟨_,rfl,hE⟩,hk1⟩
 ·obtain ⟨bd,q,rfl,hb⟩:=HV.out.bytes HD.out (by omega);have HB:=qqh hb;have b0:=hb 0 (by omega);rw [Nat.add_zero,Nat.add_zero] at b0;have hn0:((n:Int) == 0)=false:=qqn (by omega);clear hb;by_cases h39:D.c k=39
  ·have e1:((D.c k:Int) == 39)=true:=(by rw [beq_iff_eq];omega);have hr:txt D 39 k=r:=(by rw [<- HR.out];unfold skP;rw [if_pos h39]);have HT:=qqh hr;clear hr h39;go_wp2_with fail
   refine (literal_c D A _ C k n c pv _ (by exact HD.out) HV.out (by omega)).mono ?_;intro e w1 hpost;rw [HT.out] at hpost;have HPost:=qqh hpost;clear hpost;cases r with
   | good l p =>
    obtain ⟨hk1,a0,v,a1,n1,c1,rfl,hrd,hvw⟩:=HPost.out;have HRD:=qqh hrd;have HVW:=qqh hvw;have HK1:=qqh hk1;obtain ⟨va,vc,hve,hvl⟩:=HRD.out;subst hve;clear hrd hvw hvl hk1;go_wp2_with fail
    refine bodyPost_ret (results_tmp4 rfl _ _ _) rfl ?_;exact ⟨HK1.out,_,_,_,_,_,rfl,HRD.out,HVW.out⟩
   | bad =>
    obtain ⟨⟨v,rfl,hE⟩,hk1⟩:=HPost.out;go_wp2_with fail
    refine bodyPost_ret (results_tmp4 rfl _ _ _) rfl ?_;exact ⟨⟨_,rfl,hE⟩,hk1⟩
   | opn => exact absurd rfl HNO.out
  have e1:((D.c k:Int) == 39)=false:=qqn (by omega);by_cases h34:D.c k=34
  ·have e2:((D.c k:Int) == 34)=true:=(by rw [beq_iff_eq];omega);have hr:txt D 34 k=r:=(by rw [<- HR.out];unfold skP;rw [if_neg h39,if_pos h34]);have HT:=qqh hr;clear hr h39 h34;go_wp2_with fail
   refine (basic_c D A _ C k n c pv _ (by exact HD.out) HV.out (by omega) (by rw [HT.out];exact HNO.out)).mono ?_;intro e w1 hpost;rw [HT.out] at hpost;have HPost:=qqh hpost;clear hpost;cases r with
   | good l p =>
    obtain ⟨hk1,a0,v,a1,n1,c1,rfl,hrd,hvw⟩:=HPost.out;have HRD:=qqh hrd;have HVW:=qqh hvw;have HK1:=qqh hk1;obtain ⟨va,vc,hve,hvl⟩:=HRD.out;subst hve;clear hrd hvw hvl hk1;go_wp2_with fail
    refine bodyPost_ret (results_tmp4 rfl _ _ _) rfl ?_;exact ⟨HK1.out,_,_,_,_,_,rfl,HRD.out,HVW.out⟩
   | bad =>
    obtain ⟨⟨v,rfl,hE⟩,hk1⟩:=HPost.out;go_wp2_with fail
    refine bodyPost_ret (results_tmp4 rfl _ _ _) rfl ?_;exact ⟨⟨_,rfl,hE⟩,hk1⟩
   | opn => exact absurd rfl HNO.out
  have e2:((D.c k:Int) == 34)=false:=qqn (by omega);have hR2:Hid (r=if bareB (D.c k)=true then .good (D.sub k (bareEnd D k - k)) (bareEnd D k) else .bad):=by show _=_;rw [<- HR.out];unfold skP;rw [if_neg h39,if_neg h34]
  have hbg:=bareEnd_ge D k;obtain ⟨z,hz⟩:∃ z,bareEnd D k=z:=⟨_,rfl⟩;have hzn:=hbg.2 (by omega);have hzk:=hbg.1;rw [hz] at hzn hzk;obtain ⟨z',rfl⟩:∃ z',z=k+z':=⟨z - k,by omega⟩;have HZ:Hid (bareEnd D (k+0)=k+z'):=hz;have hzl:z'<=n:=by omega
  clear h39 h34 hbg hz
  go_upto_block 1 with fail
  go_cut [8] (fun x wx => x=.int .i64 (z':Nat)/\w=wx)
  case first =>
   go_wp2_with fail
   go_loop [8] (fun x => ∃ t:Nat,t<=n/\x=.int .i64 (t:Nat)/\Hid (bareEnd D (k+t)=k+z')) (fun x => n - (intOf x).toNat)
   case atStart => exact ⟨0,by omega,rfl,HZ⟩
   case round =>
    obtain ⟨t,ht,rfl,HT⟩:=hrel;rcases qqg t n with htm | htm
    ·have bt:=HB.out t (by omega);cases hbb:bareB (D.c (k+t)) with
     | true =>
      have HT2:Hid (bareEnd D (k+(t+1))=k+z'):=(by show _=_;rw [<- HT.out,bareEnd_go hbb];rfl);have HBB:=qqh hbb;clear hbb;go_wp2_with fail
      refine (bare113_c (D.c (k+t)) _).mono ?_;rintro e w1 ⟨rfl,rfl⟩;rw [HBB.out];go_wp2_with fail
      go_round
      case rel => exact ⟨t+1,by omega,by go_num,HT2⟩
      case measure => simp [intOf];omega
     | false =>
      obtain rfl:t=z':=(by have:=HT.out;rw [bareEnd_stop hbb] at this;omega);have HBB:=qqh hbb;clear hbb;go_wp2_with fail
      refine (bare113_c (D.c (k+t)) _).mono ?_;rintro e w ⟨rfl,rfl⟩;rw [HBB.out];go_wp2_with fail
      go_meet;exact ⟨rfl,rfl⟩
    ·obtain rfl:t=n:=(by omega);obtain rfl:t=z':=by
      have hc0:=D.out (k+t) (by omega);have:=HT.out;rw [bareEnd_stop (by rw [hc0];rfl)] at this;omega
     go_wp2_with fail
     go_meet;exact ⟨rfl,rfl⟩
  case rest =>
   obtain ⟨rfl,rfl⟩:=hcut;rcases Nat.eq_zero_or_pos z' with hz0 | hz0
   ·obtain rfl:=hz0;have hbf:bareB (D.c k)=false:=by
     cases hbb:bareB (D.c k) with
     | false => rfl
     | true => have h1:=HZ.out;rw [Nat.add_zero,bareEnd_go hbb] at h1;have:=bareEnd_ge D (k+1);omega
    obtain rfl:R.bad=r:=(by rw [hR2.out,if_neg (by simp [hbf])]);have hrunt:=upto_ (some ⟨bd,q,none⟩) n c 1 1 (by omega) (by omega);clear hbf;go_wp2_with fail
    refine (newErr_c _ _ _ _ _ (by omega)).mono ?_;rintro e w1 ⟨⟨v,rfl,hE⟩,hk1⟩;go_wp2_with fail
    refine bodyPost_ret (results_tmp4 rfl _ _ _) rfl ?_;exact ⟨⟨_,rfl,hE⟩,hk1⟩
   ·have hbt:bareB (D.c k)=true:=by
     cases hbb:bareB (D.c k) with
     | true => rfl
     | false => have h1:=HZ.out;rw [Nat.add_zero,bareEnd_stop hbb] at h1;omega
    have hze:bareEnd D k=k+z':=HZ.out;obtain rfl:R.good (D.sub k z') (k+z')=r:=(by rw [hR2.out,if_pos hbt,hze,show k+z' - k=z' by omega]);have hrunt:=upto_ (some ⟨bd,q,none⟩) n c z' (z':Int) rfl (by omega);obtain ⟨af,hvf,hrunf⟩:=VW.from_ HV.out hC1 z' (z':Int) rfl (by omega);have HVF:=qqh hvf;have hz00:((z':Int) == 0)=false:=qqn (by omega);clear hbt hze hvf;go_wp2_with fail
    go_quiet (fail)
    go_wp2_with fail
    refine bodyPost_ret (results_tmp4 rfl _ _ _) rfl ?_;exact ⟨(Kp.refl _ _).drewN _,_,_,_,_,_,rfl_str (by omega),Rd.doc HV.out (HD.out.kp (S:=Nil) ((Kp.refl Nil _).drewN _) (fun _ _ h => h)) z' _ _ (by omega),HVF.out⟩
structure Nd where
 kind:Nat
 txt:List UInt8
 next:Nat
 child:Nat
def RdS (w:World) (A:Option Addr) (bp:Nat) (nd:Value) (v:Value) (l:List UInt8):Prop :=
 ∃ a c,v=.slice a l.length c/\(l ≠ []->∃ b o,a=some ⟨b,o,none⟩/\b<w.heap.size/\((∃ x,A=some x/\x.block=b)\/(bp<b/\some b ≠ nd.ownBlock))/\∀ i (h:i<l.length),w.cell? ⟨b,o+i,none⟩=some (.int .u8 (l[i].toNat:Nat)))
def NRep (w:World) (A:Option Addr) (bp:Nat) (nd:Value):List Nd->List Value->Prop
 | [],xs => xs=[]
 | n :: ns,xs => ∃ o l d rest,xs=.int .i64 (n.kind:Nat) :: .int .u32 o :: .int .u32 l :: d :: .pointer (some ⟨bp,0,none⟩) :: .int .i32 (n.next:Nat) :: .int .i32 (n.child:Nat) :: rest/\RdS w A bp nd d n.txt/\NRep w A bp nd ns rest
def PN (D:Doc) (A:Option Addr) (C bp:Nat) (w:World) (left nd:Value) (ns:List Nd) (er:Value) (nst:Nat):Prop :=
 ∃ xs,PI D A C bp w left nd ns.length xs er nst/\NRep w A bp nd ns xs
theorem RdS.step {S:Nat->Prop} {w w':World} {A:Option Addr} {bp:Nat} {nd nd' v:Value} {l:List UInt8} (h:RdS w A bp nd v l) (k:Kp S w w') (hS:∀ b,bp<b->some b ≠ nd.ownBlock->b<w.heap.size->¬ S b) (hA:∀ a,A=some a->¬ S a.block) (f:Fresh w nd nd'):RdS w' A bp nd' v l:=by
 obtain ⟨a,c,e,hl⟩:=h;refine ⟨a,c,e,fun hne => ?_⟩;obtain ⟨b,o,e2,h1,h2,h3⟩:=hl hne;refine ⟨b,o,e2,Nat.lt_of_lt_of_le h1 k.size,h2.imp id (fun h => ⟨h.1,fun e => ?_⟩),fun i hi => ?_⟩
 ·rcases f with f | f
  ·exact h.2 (e.trans f)
  ·have:=f b e.symm;omega
 ·refine (World.cell?_of_block (a:=⟨b,o+i,none⟩) (k.block b h1 ?_)).trans (h3 i hi);rcases h2 with ⟨x,hx,rfl⟩ | h2
  ·exact hA x hx
  ·exact hS b h2.1 h2.2 h1
theorem NRep.step {S:Nat->Prop} {w w':World} {A:Option Addr} {bp:Nat} {nd nd':Value} (k:Kp S w w') (hS:∀ b,bp<b->some b ≠ nd.ownBlock->b<w.heap.size->¬ S b) (hA:∀ a,A=some a->¬ S a.block) (f:Fresh w nd nd'):∀ (ns:List Nd) (xs:List Value),NRep w A bp nd ns xs->NRep w' A bp nd' ns xs
 | [],_,h => h
 | _ :: ns,_,h => by
  obtain ⟨o,l,d,rest,hx,h1,h2⟩:=h;exact ⟨o,l,d,rest,hx,h1.step k hS hA f,NRep.step k hS hA f ns rest h2⟩
theorem NRep.append {w:World} {A:Option Addr} {bp:Nat} {nd:Value}:∀ (ns ms:List Nd) (xs ys:List Value),NRep w A bp nd ns xs->NRep w A bp nd ms ys->NRep w A bp nd (ns++ms) (xs++ys)
 | [],_,_,_,h,h' => by have h:_=[]:=h;subst h;exact h'
 | _ :: ns,ms,_,ys,h,h' => by
  obtain ⟨o,l,d,rest,rfl,h1,h2⟩:=h;exact ⟨o,l,d,rest++ys,by simp,h1,NRep.append ns ms rest ys h2 h'⟩
theorem RdS.of {w:World} {A:Option Addr} {bp base:Nat} {nd v:Value} {l:List UInt8} (h:Rd w A base v l) (hb:bp<base) (hn:∀ g,nd.ownBlock=some g->g<base):RdS w A bp nd v l:=by
 obtain ⟨a,c,e,hl⟩:=h;refine ⟨a,c,e,fun hne => ?_⟩;obtain ⟨b,o,e2,h1,h2,h3⟩:=hl hne;exact ⟨b,o,e2,h1,h2.imp id (fun h => ⟨by omega,fun e => by have:=hn b e.symm;omega⟩),h3⟩
section
variable {D:Doc} {A:Option Addr} {C bp:Nat} {w w':World} {left nd er:Value} {ns:List Nd} {nst:Nat}
theorem Fresh.refl (w:World) (v:Value):Fresh w v v:=.inl rfl
theorem PN.nil (h:PN D A C bp w left nd ns er nst) (k:Kp Nil w w'):PN D A C bp w' left nd ns er nst:=by
 obtain ⟨xs,h1,h2⟩:=h;exact ⟨xs,h1.nil k,NRep.step k (fun _ _ _ _ x => x) (fun _ _ x => x) (Fresh.refl _ _) _ _ h2⟩
theorem PN.ltB (h:PN D A C bp w left nd ns er nst):bp<w.heap.size:=h.choose_spec.1.ltB
theorem PN.doc (h:PN D A C bp w left nd ns er nst):DocAt D A C w:=h.choose_spec.1.doc
theorem PN.data (h:PN D A C bp w left nd ns er nst):w.cell? ⟨bp,1,none⟩=some (.slice A D.n C):=h.choose_spec.1.blk.cell 1 rfl
theorem PN.rowlt (h:PN D A C bp w left nd ns er nst):∀ g,nd.ownBlock=some g->bp<g/\g<w.heap.size:=fun g hg => h.choose_spec.1.own.lt g hg
end
def Fr (bp:Nat) (w:World) (nd:Value) (w':World) (nd':Value):Prop:=Kp (fun b => b=bp\/some b=nd.ownBlock) w w'/\Fresh w nd nd'
theorem Fr.refl (bp:Nat) (w:World) (nd:Value):Fr bp w nd w nd:=⟨Kp.refl _ _,.inl rfl⟩
theorem Fr.nil {bp:Nat} {w w':World} {nd:Value} (h:Kp Nil w w'):Fr bp w nd w' nd:=⟨h.mono (fun _ x => x.elim),.inl rfl⟩
theorem Fr.trans {bp:Nat} {w w1 w2:World} {nd nd1 nd2:Value} (h:Fr bp w nd w1 nd1) (k:Fr bp w1 nd1 w2 nd2):Fr bp w nd w2 nd2:=by
 refine ⟨h.1.then k.1 (fun i hi => ?_),?_⟩
 ·rcases hi with hi | hi
  ·exact .inl (.inl hi)
  ·rcases h.2 with f | f
   ·exact .inl (.inr (by rw [hi,f]))
   ·exact .inr (f i hi.symm)
 ·rcases k.2 with f | f
  ·rcases h.2 with g | g
   ·exact .inl (f.trans g)
   ·exact .inr (fun b hb => g b (f ▸ hb))
  ·exact .inr (fun b hb => Nat.le_trans h.1.size (f b hb))
theorem Fr.row {bp:Nat} {w:World} {nd:Value} {g i:Nat} (hg:nd.ownBlock=some g) (u:Value):Fr bp w nd (w.setCell ⟨g,i,none⟩ u) nd :=
 ⟨(Kp.refl _ _).setCell (p:=⟨g,i,none⟩) (.inl (.inr hg.symm)) u,.inl rfl⟩
theorem Fr.self {bp:Nat} {w:World} {nd:Value} {i:Nat} (u:Value):Fr bp w nd (w.setCell ⟨bp,i,none⟩ u) nd :=
 ⟨(Kp.refl _ _).setCell (p:=⟨bp,i,none⟩) (.inl (.inl rfl)) u,.inl rfl⟩
theorem Fr.blk {bp b:Nat} {w w':World} {nd nd':Value} {xs:List Value} {t:TypeId} (h:Fr bp w nd w' nd') (hB:Blk w b xs t) (h1:b ≠ bp) (h2:nd.ownBlock ≠ some b):Blk w' b xs t/\nd'.ownBlock ≠ some b:=by
 refine ⟨hB.kp h.1 (fun e => e.elim h1 (fun e => h2 e.symm)),fun e => ?_⟩;rcases h.2 with f | f
 ·exact h2 (f ▸ e)
 ·have:=f b e;have:=hB.lt;omega
theorem push_n (D:Doc) (A:Option Addr) (C bp:Nat) (w:World) (left nd er:Value) (ns:List Nd) (nst:Nat) (hP:PN D A C bp w left nd ns er nst) (hN:ns.length<=134217728) (K:Nat) (o l:Int) (d c4:Value) (txt:List UInt8) (hr:RdS w A bp nd d txt) :
  Calls Tryz.prog 56 #[.pointer (some ⟨bp,0,none⟩),.agg #[.int .i64 (K:Nat),.int .u32 o,.int .u32 l,d,c4,.int .i32 0,.int .i32 0]] w fun e w' => ∃ nd',e=.returned (.int .i32 ((ns.length+1:Nat):Int)) /\
   PN D A C bp w' left nd' (ns++[⟨K,txt,0,0⟩]) er nst/\Fr bp w nd w' nd':=by
 obtain ⟨xs,h1,h2⟩:=hP;have hd1:d.oneCell'=true:=by obtain ⟨a,c,rfl,_⟩:=hr;rfl
 refine (push_c D A C bp w left nd er ns.length xs nst h1 hN (.int .i64 (K:Nat)) (.int .u32 o) (.int .u32 l) d c4 (.int .i32 0) (.int .i32 0) (by
  intro u hu
  simp at hu
  rcases hu with rfl | rfl | rfl | rfl | rfl <;> first | rfl | exact hd1)).mono ?_
 rintro e w' ⟨nd',rfl,h3,h4,h5⟩;have hS:∀ b,bp<b->some b ≠ nd.ownBlock->b<w.heap.size->¬ (b=bp\/some b=nd.ownBlock):=fun b hb hb2 _ h => h.elim (fun h => by omega) hb2
 have hA:∀ a,A=some a->¬ (a.block=bp\/some a.block=nd.ownBlock):=fun a ha h => h.elim (h1.ltA a ha).1 (h1.ltA a ha).2.1
 refine ⟨nd',rfl,⟨_,by rw [qqa];exact h3,NRep.append _ _ _ _ (NRep.step h4 hS hA h5 _ _ h2) ⟨o,l,d,[],rfl,hr.step h4 hS hA h5,rfl⟩⟩,h4,h5⟩
def KB (bp:Nat) (w w':World):Prop:=Kp (fun b => bp<=b) w w'
theorem Fr.kb {bp:Nat} {w w':World} {nd nd':Value} (f:Fr bp w nd w' nd') (hrow:∀ g,nd.ownBlock=some g->bp<g):KB bp w w' :=
 f.1.mono (fun b hb => by rcases hb with h | h;omega;have:=hrow b h.symm;omega)
theorem KB.nil {bp:Nat} {w w':World} (k:Kp Nil w w'):KB bp w w':=k.mono (fun _ x => x.elim)
theorem KB.trans {bp:Nat} {a b c:World} (h:KB bp a b) (k:KB bp b c):KB bp a c:=Kp.trans h k
def ErrH (D:Doc) (A:Option Addr) (C bp:Nat) (left er:Value) (nst:Nat) (w0:World) (e:Ending) (w':World):Prop :=
 ∃ v nd N xs,e=.returned (.tuple #[.int .i32 0,.slice none 0 0,v])/\Err w' (bp+1) v/\PI D A C bp w' left nd N xs er nst/\KB bp w0 w'
theorem skP_in {D:Doc} {k p:Nat} {l:List UInt8} (h:skP D k=.good l p):k<p:=by
 unfold skP at h;split at h
 ·exact (txt_in D _ _ _ _ h).1 |> fun h => by omega
 ·split at h
  ·exact (txt_in D _ _ _ _ h).1 |> fun h => by omega
  ·split at h
   ·rename_i hb;injection h with _ h;rw [bareEnd_go hb] at h;have:=(bareEnd_ge D (k+1)).1;omega
   ·cases h
def SkPost (D:Doc) (A:Option Addr) (C bp:Nat) (w:World) (nd0:Value) (left er:Value) (ns:List Nd) (nst:Nat) (r:R (List UInt8)) (e:Ending) (w':World):Prop :=
 match r with
 | .good l p => ∃ a n c nd,e=.returned (.tuple #[.int .i32 ((ns.length+1:Nat):Int),.slice a n c,.nilIface])/\VW D A C p a n c/\PN D A C bp w' left nd (ns++[⟨2,l,0,0⟩]) er nst/\Fr bp w nd0 w' nd
 | _ => ErrH D A C bp left er nst w e w'
theorem psk_c (D:Doc) (A a:Option Addr) (C bp k n c:Nat) (w:World) (left nd er:Value) (ns:List Nd) (nst:Nat) (hP:PN D A C bp w left nd ns er nst) (hN:ns.length<=134217728) (hv:VW D A C k a n c) (hno:skP D k ≠ .opn) :
  Calls Tryz.prog 93 #[.pointer (some ⟨bp,0,none⟩),.slice a n c] w (SkPost D A C bp w nd left er ns nst (skP D k)):=by
 have hs:=D.small;have hC1:=hP.doc.1;have hC2:=hP.doc.2.1;have hlt:=hP.ltB;have hcp:=qql hv.cap;have hcp':=qql hv.cap.symm;obtain ⟨r,hr⟩:∃ r,skP D k=r:=⟨_,rfl⟩;rw [hr] at hno ⊢;have HP:=qqh hP;have HV:=qqh hv;have HR:=qqh hr;have HNO:=qqh hno;clear hP hv hr hno;go_enter Tryz.func93,Tryz.ntmps93;go_wp2_with fail
 refine (sk_c D A a C k n c (.pointer (some ⟨bp,0,none⟩)) _ (by exact HP.out.doc) HV.out (by rw [HR.out];exact HNO.out)).mono ?_;intro e w1 hpost;rw [HR.out] at hpost;have HPost:=qqh hpost;clear hpost;cases r with
 | good l p =>
  obtain ⟨hk1,a0,v,a1,n1,c1,rfl,hrd,hvw⟩:=HPost.out;have hpn:p<=D.n:=by have:=hvw.len;omega
  have hkp:k<p:=skP_in HR.out;have HRD:=qqh (RdS.of (bp:=bp) (nd:=nd) hrd hlt (fun g hg => (HP.out.rowlt g hg).2));have HVW:=qqh hvw;have hP1:=qqh (HP.out.nil hk1);have HF1:=qqh (Fr.nil (bp:=bp) (nd:=nd) hk1);obtain ⟨va,vc,hve,hvl⟩:=hrd;subst hve;clear hvw hvl hk1;go_wp2_with fail
  refine (range_c D A a0 C k (p - k) c bp _ (by exact hP1.out.ltB) (by exact hP1.out.data) hC2 (by omega) (by omega) (by omega)).mono ?_;rintro e w2 ⟨⟨x,y,rfl⟩,hk2⟩;have hP2:=qqh (hP1.out.nil hk2);have hRD2:=qqh (RdS.step HRD.out hk2 (fun _ _ _ _ x => x) (fun _ _ x => x) (Fresh.refl _ _));have HF2:=qqh (HF1.out.trans (Fr.nil hk2));clear hk2;go_wp2_with fail
  refine (push_n D A C bp _ left nd er ns nst (by exact hP2.out) hN 2 x y _ _ l (by exact hRD2.out)).mono ?_;rintro e w3 ⟨nd3,rfl,hP3,hF3⟩;have HP3:=qqh hP3;have HF3:=qqh (HF2.out.trans hF3);clear hP3 hF3;go_wp2_with fail
  go_ret3
  exact ⟨_,_,_,_,rfl,HVW.out,HP3.out,HF3.out⟩
 | bad =>
  obtain ⟨⟨v,rfl,hE⟩,hk1⟩:=HPost.out;obtain ⟨b,rfl⟩:=Err.ptr hE;have HE:=qqh hE;have hP1:=qqh (HP.out.nil hk1);have HK1:=qqh hk1;clear hE hk1;go_wp2_with fail
  go_ret3
  obtain ⟨xs,h1,h2⟩:=hP1.out;exact ⟨_,_,_,_,rfl,Err.mono HE.out (by omega),h1,KB.nil HK1.out⟩
 | opn => exact absurd rfl HNO.out
def setNext:List Nd->Nat->Nat->List Nd
 | [],_,_ => []
 | n :: ns,0,x => { n with next:=x } :: ns
 | n :: ns,i+1,x => n :: setNext ns i x
def setChild:List Nd->Nat->Nat->List Nd
 | [],_,_ => []
 | n :: ns,0,x => { n with child:=x } :: ns
 | n :: ns,i+1,x => n :: setChild ns i x
theorem setNext_len:∀ (ns:List Nd) (i x:Nat),(setNext ns i x).length=ns.length
 | [],_,_ => rfl
 | _ :: _,0,_ => rfl
 | _ :: ns,i+1,x => congrArg (·+1) (setNext_len ns i x)
theorem setChild_len:∀ (ns:List Nd) (i x:Nat),(setChild ns i x).length=ns.length
 | [],_,_ => rfl
 | _ :: _,0,_ => rfl
 | _ :: ns,i+1,x => congrArg (·+1) (setChild_len ns i x)
theorem NRep.setNext {w:World} {A:Option Addr} {bp:Nat} {nd:Value} (x:Nat):∀ (ns:List Nd) (xs:List Value) (i:Nat),i<ns.length->NRep w A bp nd ns xs->NRep w A bp nd (setNext ns i x) (xs.set (7 * i+5) (.int .i32 (x:Nat)))
 | [],_,_,h,_ => absurd h (by simp)
 | n :: ns,_,0,_,h => by
  obtain ⟨o,l,d,rest,rfl,h1,h2⟩:=h;exact ⟨o,l,d,rest,rfl,h1,h2⟩
 | n :: ns,_,i+1,hi,h => by
  obtain ⟨o,l,d,rest,rfl,h1,h2⟩:=h;refine ⟨o,l,d,_,?_,h1,NRep.setNext x ns rest i (by simpa using hi) h2⟩;rw [show 7 * (i+1)+5=(7 * i+5)+7 by omega];simp
theorem NRep.setChild {w:World} {A:Option Addr} {bp:Nat} {nd:Value} (x:Nat):∀ (ns:List Nd) (xs:List Value) (i:Nat),i<ns.length->NRep w A bp nd ns xs->NRep w A bp nd (setChild ns i x) (xs.set (7 * i+6) (.int .i32 (x:Nat)))
 | [],_,_,h,_ => absurd h (by simp)
 | n :: ns,_,0,_,h => by
  obtain ⟨o,l,d,rest,rfl,h1,h2⟩:=h;exact ⟨o,l,d,rest,rfl,h1,h2⟩
 | n :: ns,_,i+1,hi,h => by
  obtain ⟨o,l,d,rest,rfl,h1,h2⟩:=h;refine ⟨o,l,d,_,?_,h1,NRep.setChild x ns rest i (by simpa using hi) h2⟩;rw [show 7 * (i+1)+6=(7 * i+6)+7 by omega];simp
section
variable {D:Doc} {A:Option Addr} {C bp:Nat} {w:World} {left nd er:Value} {ns:List Nd} {nst:Nat}
theorem PI.stored {N g:Nat} {xs:List Value} {u:Value} (h:PI D A C bp w left nd N xs er nst) (hg:nd.ownBlock=some g) (j:Nat) (hu:u.oneCell'=true):PI D A C bp (w.setCell ⟨g,j,none⟩ u) left nd N (xs.set j u) er nst:=by
 have hlt:=h.own.lt g hg;have hb:g ≠ bp:=by omega
 have hA:∀ a,A=some a->¬ (Only g a.block):=fun a ha e => (h.ltA a ha).2.1 (by have e:a.block=g:=e;rw [e,hg])
 obtain ⟨h3,h4⟩:=h.blkKp (S:=Only g) ((Kp.refl _ _).putOnly (i:=j) u) (fun e => hb e.symm) hA;refine ⟨h3,h4,?_,fun v hv => ?_,fun a ha => ⟨(h.ltA a ha).1,(h.ltA a ha).2.1,by have:=(h.ltA a ha).2.2;simp;omega⟩⟩
 ·obtain ⟨a,c,rfl,_,ha⟩:=h.form;rcases h.own.2 with ⟨h1,_⟩ | ⟨g',cap,cur,h1,_⟩
  ·rw [h1] at hg;cases hg
  ·injection h1 with h1 _ h2;subst h1;have:g'=g:=(by injection hg);subst this;exact (World.ownsRow.stored h.own j u).1
 ·rcases List.mem_or_eq_of_mem_set hv with h1 | h1
  ·exact h.one v h1
  ·exact h1 ▸ hu
theorem PN.setNext (h:PN D A C bp w left nd ns er nst) {g:Nat} (hg:nd.ownBlock=some g) (i x:Nat) (hi:i<ns.length):PN D A C bp (w.setCell ⟨g,7 * i+5,none⟩ (.int .i32 (x:Nat))) left nd (setNext ns i x) er nst:=by
 obtain ⟨xs,h1,h2⟩:=h;refine ⟨_,by rw [setNext_len];exact h1.stored hg _ rfl,NRep.setNext x ns xs i hi (NRep.step (S:=Only g) ((Kp.refl _ _).putOnly _) (fun b _ hb _ e => hb (by have e:b=g:=e;rw [e,hg])) (fun a ha e => ?_) (Fresh.refl _ _) _ _ h2)⟩;exact (h1.ltA a ha).2.1 (by have e:a.block=g:=e;rw [e,hg])
theorem PN.setChild (h:PN D A C bp w left nd ns er nst) {g:Nat} (hg:nd.ownBlock=some g) (i x:Nat) (hi:i<ns.length):PN D A C bp (w.setCell ⟨g,7 * i+6,none⟩ (.int .i32 (x:Nat))) left nd (setChild ns i x) er nst:=by
 obtain ⟨xs,h1,h2⟩:=h;refine ⟨_,by rw [setChild_len];exact h1.stored hg _ rfl,NRep.setChild x ns xs i hi (NRep.step (S:=Only g) ((Kp.refl _ _).putOnly _) (fun b _ hb _ e => hb (by have e:b=g:=e;rw [e,hg])) (fun a ha e => ?_) (Fresh.refl _ _) _ _ h2)⟩;exact (h1.ltA a ha).2.1 (by have e:a.block=g:=e;rw [e,hg])
end
theorem at_c (D:Doc) (A:Option Addr) (C bp:Nat) (w:World) (left nd er:Value) (ns:List Nd) (nst:Nat) (hP:PN D A C bp w left nd ns er nst) (h:Nat) (h1:1<=h) (h2:h<=ns.length) (hN:ns.length<=268435456) :
  Calls Tryz.prog 89 #[.pointer (some ⟨bp,0,none⟩),.int .i32 (h:Nat)] w fun e w' => (∃ g,nd.ownBlock=some g/\e=.returned (.pointer (some ⟨g,7 * (h - 1),none⟩)))/\w'=w:=by
 obtain ⟨xs,hI,hR⟩:=hP;obtain ⟨na,nc,rfl,hnc,hna⟩:=hI.form;obtain ⟨g,rfl⟩:=hna (by omega);have b3:=hI.blk.cell 3 rfl;have hwr:IntKind.i32.wrap ((h:Int) - 1)=(h:Int) - 1:=IntWalk.i32_in _ (by omega);clear hna hR hI;go_enter Tryz.func89,Tryz.ntmps89;go_wp2_with fail
 go_ret;refine ⟨⟨g,rfl,?_⟩,rfl⟩;show Ending.returned (Value.pointer (some ⟨g,(h - 1) * 7,none⟩))=_;rw [Nat.mul_comm]
def ckRun (D:Doc) (k:Nat) (acc:List (List UInt8)):R (List (List UInt8)) :=
 match _h:skP D k with
 | .good l p => if _h2:D.c (wsEnd D p)=46 then ckRun D (wsEnd D (wsEnd D p+1)) (acc++[l]) else .good (acc++[l]) (wsEnd D p)
 | .bad => .bad
 | .opn => .opn
termination_by D.n - k
decreasing_by
 have h1:=skP_in _h;have h2:=wsEnd_ge D p;have h3:=Doc.in_of (D:=D) (k:=wsEnd D p) (by omega);have h4:=wsEnd_ge D (wsEnd D p+1);omega
theorem ck_good {D:Doc} {k p:Nat} {l:List UInt8} {acc:List (List UInt8)} (h:skP D k=.good l p):ckRun D k acc=if D.c (wsEnd D p)=46 then ckRun D (wsEnd D (wsEnd D p+1)) (acc++[l]) else .good (acc++[l]) (wsEnd D p):=by
 rw [ckRun];split
 ·rename_i h';rw [h] at h';injection h' with e1 e2;subst e1 e2;simp only [dite_eq_ite]
 ·rename_i h';rw [h] at h';cases h'
 ·rename_i h';rw [h] at h';cases h'
theorem ck_bad {D:Doc} {k:Nat} {acc:List (List UInt8)} (h:skP D k=.bad):ckRun D k acc=.bad:=by
 rw [ckRun];split
 ·rename_i h';rw [h] at h';cases h'
 ·rfl
 ·rename_i h';rw [h] at h';cases h'
theorem ck_opn {D:Doc} {k:Nat} {acc:List (List UInt8)} (h:skP D k=.opn):ckRun D k acc=.opn:=by
 rw [ckRun];split
 ·rename_i h';rw [h] at h';cases h'
 ·rename_i h';rw [h] at h';cases h'
 ·rfl
def keyNds (base:Nat):List (List UInt8)->List Nd
 | [] => []
 | [l] => [⟨2,l,0,0⟩]
 | l :: m :: ls => ⟨2,l,base+2,0⟩ :: keyNds (base+1) (m :: ls)
theorem keyNds_len:∀ (ls:List (List UInt8)) (base:Nat),(keyNds base ls).length=ls.length
 | [],_ => rfl
 | [_],_ => rfl
 | _ :: m :: ls,base => congrArg (·+1) (keyNds_len (m :: ls) (base+1))
theorem setNext_right:∀ (ns ms:List Nd) (i x:Nat),setNext (ns++ms) (ns.length+i) x=ns++setNext ms i x
 | [],ms,i,x => by simp
 | n :: ns,ms,i,x => by
  rw [List.cons_append,List.length_cons,show ns.length+1+i=(ns.length+i)+1 by omega];exact congrArg (n :: ·) (setNext_right ns ms i x)
theorem keyNds_snoc:∀ (acc:List (List UInt8)) (l:List UInt8) (base:Nat),acc ≠ []->setNext (keyNds base acc++[⟨2,l,0,0⟩]) (acc.length - 1) (base+acc.length+1)=keyNds base (acc++[l])
 | [],_,_,h => absurd rfl h
 | [_],_,_,_ => rfl
 | a :: b :: t,l,base,_ => by
  have:=keyNds_snoc (b :: t) l (base+1) (by simp);rw [List.length_cons,show base+1+(t.length+1)+1=base+(t.length+1+1)+1 by omega] at this;show (⟨2,a,base+2,0⟩:Nd) :: setNext (keyNds (base+1) (b :: t)++[⟨2,l,0,0⟩]) ((b :: t).length - 1) (base+(a :: b :: t).length+1)=_;rw [List.length_cons,List.length_cons,List.length_cons,this]
  rfl
def kFst (N:Nat):List (List UInt8)->Nat | [] => 0 | _ => N+1
def kLst (N:Nat):List (List UInt8)->Nat | [] => 0 | l => N+l.length
theorem kFst_snoc (N:Nat) (acc:List (List UInt8)) (l:List UInt8):kFst N (acc++[l])=N+1:=by cases acc <;> rfl
theorem kLst_snoc (N:Nat) (acc:List (List UInt8)) (l:List UInt8):kLst N (acc++[l])=N+acc.length+1:=by
 cases acc with
 | nil => rfl
 | cons a t => show N+(a :: t++[l]).length=_;simp;omega
theorem PN.cell {D:Doc} {A:Option Addr} {C bp:Nat} {w:World} {left nd er:Value} {ns:List Nd} {nst:Nat} (h:PN D A C bp w left nd ns er nst) {g:Nat} (hg:nd.ownBlock=some g) (j:Nat) (hj:j<ns.length * 7) :
  (∃ v,w.cell? ⟨g,j,none⟩=some v)/\w.frozen? ⟨g,j,none⟩=false:=by
 obtain ⟨xs,h1,_⟩:=h;obtain ⟨a,c,rfl,_,_⟩:=h1.form;rcases h1.own.2 with ⟨h2,_⟩ | ⟨g',cap,cur,h2,_⟩
 ·rw [h2] at hg;cases hg
 ·injection h2 with h2 _ h3;subst h2;have:g'=g:=by injection hg
  subst this;exact ⟨⟨_,by rw [h1.own.cellAt j hj];exact List.getElem?_eq_getElem (by rw [h1.own.1];exact hj)⟩,h1.own.frozenAt j⟩
theorem ret_key {x y:Nat} {s v:Value} (h:x=y):Ending.returned (.tuple #[.int .i32 (x:Nat),s,v])=.returned (.tuple #[.int .i32 (y:Nat),s,v]):=by rw [h]
def KeyPost (D:Doc) (A:Option Addr) (C bp:Nat) (w:World) (nd0:Value) (left er:Value) (ns:List Nd) (nst:Nat) (r:R (List (List UInt8))) (e:Ending) (w':World):Prop :=
 match r with
 | .good ks p => ∃ a n c nd,e=.returned (.tuple #[.int .i32 ((ns.length+1:Nat):Int),.slice a n c,.nilIface])/\VW D A C p a n c/\PN D A C bp w' left nd (ns++keyNds ns.length ks) er nst/\Fr bp w nd0 w' nd
 | _ => ErrH D A C bp left er nst w e w'
theorem pkey_c (D:Doc) (A a:Option Addr) (C bp k n c:Nat) (w:World) (left nd er:Value) (ns:List Nd) (nst:Nat) (hP:PN D A C bp w left nd ns er nst) (hB:ns.length+4 * (D.n - k)<=100000000) (hv:VW D A C k a n c) (hno:ckRun D k [] ≠ .opn) :
  Calls Tryz.prog 88 #[.pointer (some ⟨bp,0,none⟩),.slice a n c] w (KeyPost D A C bp w nd left er ns nst (ckRun D k [])):=by
 have hs:=D.small;have hC1:=hP.doc.1;have hC2:=hP.doc.2.1;obtain ⟨r,hr⟩:∃ r,ckRun D k []=r:=⟨_,rfl⟩;rw [hr] at hno ⊢;have hP0:Hid (PN D A C bp w left nd (ns++keyNds ns.length []) er nst):=by show PN D A C bp w left nd (ns++[]) er nst;rw [List.append_nil];exact hP
 have HROW:Hid (∀ g,nd.ownBlock=some g->bp<g):=fun g hg => (hP.rowlt g hg).1
 have HV:=qqh hv;have HR0:=qqh hr;have HNO:=qqh hno;have hkn:k<=D.n:=by have:=hv.len;omega
 obtain ⟨N,hN⟩:∃ N,ns.length=N:=⟨_,rfl⟩;rw [hN] at hP0 hB;have HN:=qqh hN;clear hP hv hr hno hN;go_enter Tryz.func88,Tryz.ntmps88;go_wp2_with fail
 go_loopw [1,7,8] (fun b x y wr => ∃ (j:Nat) (acc:List (List UInt8)) (a:Option Addr) (n c:Nat) (ndx:Value),b=.slice a n c/\x=.int .i32 (kFst N acc:Nat)/\y=.int .i32 (kLst N acc:Nat)/\k<=j/\j<=D.n/\acc.length<=j - k/\Hid (VW D A C j a n c)/\Hid (PN D A C bp wr left ndx (ns++keyNds N acc) er nst)/\Hid (ckRun D j acc=r)/\Hid (Fr bp w nd wr ndx)) (fun b _ _ _ => slen b)
 case atStart => exact ⟨k,[],a,n,c,nd,rfl,rfl,rfl,qqr _,hkn,Nat.zero_le _,HV,hP0,HR0,Fr.refl _ _ _⟩
 case round =>
  obtain ⟨j,acc,a1,n1,c1,nd1,rfl,rfl,rfl,hj1,hj2,hal,hV,hP1,HR,hFr1⟩:=hrel;have hlen:Hid ((ns++keyNds N acc).length=N+acc.length):=by show _=_;rw [qqa,keyNds_len,HN.out]
  have hln:=qql hV.out.len;have hln':=qql hV.out.len.symm;have hsn:Hid (skP D j ≠ .opn):=fun h => HNO.out (by rw [<- HR.out];exact ck_opn h)
  obtain ⟨rs,hrs⟩:∃ rs,skP D j=rs:=⟨_,rfl⟩;have HRS:=qqh hrs;clear hrs;go_wp2_with fail
  refine (psk_c D A a1 C bp j n1 c1 _ left nd1 er (ns++keyNds N acc) nst (by exact hP1.out) (by rw [hlen.out];omega) hV.out hsn.out).mono ?_;intro e w1 hpost;rw [HRS.out] at hpost;have HPost:=qqh hpost;clear hpost;cases rs with
  | good l p =>
   obtain ⟨a2,n2,c2,nd2,rfl,hvw,hP2,hFr2⟩:=HPost.out;have hpj:=skP_in HRS.out;have hpn:p<=D.n:=(by have:=hvw.len;omega);have HVW:=qqh hvw;have hP2:=qqh hP2;have HFr2:=qqh (hFr1.out.trans hFr2);clear hvw HPost hFr2;obtain ⟨H,hH⟩:∃ H,(ns++keyNds N acc).length+1=H:=⟨_,rfl⟩;rw [hH];have HH:Hid (H=N+acc.length+1):=(by show _=_;rw [<- hH,hlen.out]);have hHb:H<=100000001:=(by have:=HH.out;omega);clear hH;have hak:N+acc.length<=100000000:=(by omega);go_upto_if 23 with fail;go_cut [7] from 12 to 30 (fun x wx => x=.int .i32 (kFst N (acc++[l]):Nat)/\Hid (PN D A C bp wx left nd2 (ns++keyNds N (acc++[l])) er nst)/\Hid (Fr bp w nd wx nd2))
   case first =>
    cases hacc:acc with
    | nil =>
     subst hacc;have e22:(((kFst N []:Nat):Int) == 0)=true:=rfl;go_wp2_with fail
     go_meet;refine ⟨by rw [HH.out];rfl,?_,HFr2⟩;have h:=hP2.out;rw [show ns++keyNds N []=ns from List.append_nil ns] at h;exact h
    | cons b t =>
     rw [<- hacc];have hne:acc ≠ []:=(by rw [hacc];simp);have hl1:kLst N acc=N+acc.length:=(by rw [hacc];rfl);have hf1:kFst N acc=N+1:=(by rw [hacc];rfl);have hal0:0<acc.length:=List.length_pos_iff.2 hne;have e22:(((kFst N acc:Nat):Int) == 0)=false:=qqn (by rw [hf1];omega);have HNE:=qqh hne;have HL1:=qqh hl1;have HF1:=qqh hf1;clear hacc hne hf1 hl1;go_wp2_with fail
     refine (at_c D A C bp _ left nd2 er _ nst (by exact hP2.out) (kLst N acc) (by rw [HL1.out];omega) (by rw [qqa,hlen.out,HL1.out];simp) (by rw [qqa,hlen.out];simp;omega)).mono ?_;rintro e w2 ⟨⟨g,hg,rfl⟩,rfl⟩;have HG:=qqh hg;clear hg;obtain ⟨⟨v,hcv⟩,hcf⟩:=PN.cell hP2.out HG.out (7 * (kLst N acc - 1)+5) (by rw [qqa,hlen.out,HL1.out];simp;omega);go_wp2_with fail
     go_meet;refine ⟨by rw [HF1.out,kFst_snoc],?_,HFr2.out.trans (Fr.row HG.out _)⟩;have h:=PN.setNext hP2.out HG.out (kLst N acc - 1) H (by rw [qqa,hlen.out,HL1.out];simp;omega);obtain rfl:=HH.out;rw [List.append_assoc,show kLst N acc - 1=ns.length+(acc.length - 1) by rw [HL1.out,HN.out];omega,setNext_right,keyNds_snoc acc l N HNE.out] at h;rw [show kLst N acc - 1=ns.length+(acc.length - 1) by rw [HL1.out,HN.out];omega];exact h
   case rest =>
    obtain ⟨rfl,hP3,hFr3⟩:=hcut;have hb1:=wsEnd_ge D p;have hb2:=wsEnd_le D p;obtain ⟨k1,hk1⟩:∃ k1,wsEnd D p=k1:=⟨_,rfl⟩;rw [hk1] at hb1 hb2;have HR2:Hid (r=if D.c k1=46 then ckRun D (wsEnd D (k1+1)) (acc++[l]) else .good (acc++[l]) k1):=(by show _=_;rw [<- HR.out,ck_good HRS.out,hk1]);have HK1:=qqh hk1;clear hk1;go_wp2_with fail
    refine (skip_c D A a2 C p n2 c2 _ (by exact hP3.out.doc) HVW.out).mono ?_;rintro e w3 ⟨rfl,a3,n3,c3,rfl,hv3⟩;rw [HK1.out] at hv3;have hl3:=qql hv3.len;have hl3':=qql hv3.len.symm;have HV3:=qqh hv3;clear hv3;by_cases h46:D.c k1=46
    ·have hin:=Doc.in_of (D:=D) (k:=k1) (by omega);obtain ⟨bd,q,rfl,hb⟩:=HV3.out.bytes hP3.out.doc hin;have b0:=hb 0 (by omega);rw [Nat.add_zero,Nat.add_zero] at b0;have e0:decide (0<(n3:Int))=true:=qqt (by omega);have e46:((D.c k1:Int) == 46)=true:=(by rw [beq_iff_eq];omega);have hr3:ckRun D (wsEnd D (k1+1)) (acc++[l])=r:=(by rw [HR2.out,if_pos h46]);have HR3:=qqh hr3;obtain ⟨a4,hva,hrun⟩:=VW.from_ HV3.out hC1 1 1 rfl (by omega);have HVA:=qqh hva;clear hb h46 hr3 hva;go_wp2_with fail
     refine (skip_c D A a4 C (k1+1) (n3 - 1) (c3 - 1) _ (by exact hP3.out.doc) HVA.out).mono ?_;rintro e w4 ⟨rfl,a5,n5,c5,rfl,hv5⟩;have hb3:=wsEnd_ge D (k1+1);have hl5:=qql hv5.len;have hl5':=qql hv5.len.symm;have HV5:=qqh hv5;obtain ⟨k2,hk2⟩:∃ k2,wsEnd D (k1+1)=k2:=⟨_,rfl⟩;rw [hk2] at hb3 hl5 hl5' HV5 HR3;clear hv5 hk2;go_wp2_with fail
     go_roundw
     case rel => exact ⟨k2,acc++[l],a5,n5,c5,nd2,rfl,rfl,by rw [kLst_snoc,HH.out],by omega,by omega,by rw [qqa];simp;omega,HV5,hP3,HR3,hFr3⟩
     case measure => simp [slen];omega
    ·have hr3:R.good (acc++[l]) k1=r:=(by rw [HR2.out,if_neg h46]);obtain rfl:=hr3;rcases Nat.eq_zero_or_pos n3 with h0 | h0
     ·obtain rfl:=h0;clear h46;go_wp2_with fail
      go_ret3
      exact ⟨_,_,_,_,ret_key (by rw [HN.out,kFst_snoc]),HV3.out,by rw [HN.out];exact hP3.out,hFr3.out⟩
     ·obtain ⟨bd,q,rfl,hb⟩:=HV3.out.bytes hP3.out.doc (by omega);have b0:=hb 0 (by omega);rw [Nat.add_zero,Nat.add_zero] at b0;have e0:decide (0<(n3:Int))=true:=qqt (by omega);have e46:((D.c k1:Int) == 46)=false:=qqn (by omega);clear hb h46;go_wp2_with fail
      go_ret3
      exact ⟨_,_,_,_,ret_key (by rw [HN.out,kFst_snoc]),HV3.out,by rw [HN.out];exact hP3.out,hFr3.out⟩
  | bad =>
   obtain rfl:R.bad=r:=(by rw [<- HR.out];exact (ck_bad HRS.out).symm);obtain ⟨v,nd2,N2,xs2,rfl,hE,hPI,hKB⟩:=HPost.out;have HKB:=qqh hKB;obtain ⟨b,rfl⟩:=Err.ptr hE;have HE:=qqh hE;have HPI:=qqh hPI;clear hE hPI HPost hKB;go_wp2_with fail
   go_ret3
   exact ⟨_,_,_,_,rfl,HE.out,HPI.out,(hFr1.out.kb HROW.out).trans HKB.out⟩
  | opn => exact absurd HRS.out hsn.out
def KL (D:Doc):R (List (List UInt8))->R (List (List UInt8))->Prop
 | .good ks p,b => b=.good ks p
 | .bad,b => b=.bad\/∃ ks p,b=.good ks p/\(D.c p=34\/D.c p=39)
 | .opn,_ => True
theorem skP_quote {D:Doc} {k:Nat} (h:D.c k=34\/D.c k=39):skP D k=txt D (D.c k) k:=by
 unfold skP;rcases h with h | h
 ·rw [if_neg (by omega),if_pos h,h]
 ·rw [if_pos h,h]
theorem key_law (D:Doc):∀ (m k:Nat) (acc:List (List UInt8)),D.n - k=m->KL D (keyRun D k acc) (ckRun D (wsEnd D k) acc):=by
 intro m
 induction m using Nat.strongRecOn with
 | _ m ih =>
  intro k acc hm;have hg:=wsEnd_ge D k;have hthen:∀ (p:Nat) (l:List UInt8),wsEnd D k<p->p<=D.n->KL D (keyThen D p (acc++[l])) (if D.c (wsEnd D p)=46 then ckRun D (wsEnd D (wsEnd D p+1)) (acc++[l]) else .good (acc++[l]) (wsEnd D p)):=by
   intro p l hp hpn;unfold keyThen;by_cases h46:D.c (wsEnd D p)=46
   ·rw [if_pos h46,if_pos h46];have h1:=wsEnd_ge D p;have h2:=Doc.in_of (D:=D) (k:=wsEnd D p) (by omega);exact ih (D.n - (wsEnd D p+1)) (by omega) _ _ rfl
   ·rw [if_neg h46,if_neg h46];rfl
  by_cases hq:D.c (wsEnd D k)=34\/D.c (wsEnd D k)=39
  ·have hsk:=skP_quote hq;by_cases ht:three D (D.c (wsEnd D k)) (wsEnd D k)
   ·rw [key_three hq ht];have hin:=Doc.in_of (D:=D) (k:=wsEnd D k+1) (by have:=ht.2.1;omega);have h1:skP D (wsEnd D k)=.good [] (wsEnd D k+2):=(by rw [hsk];exact txt_end hin ht.2.1);have h2:=ht.2.2;have h3:wsEnd D (wsEnd D k+2)=wsEnd D k+2:=wsEnd_stop (by omega);refine .inr ⟨acc++[[]],wsEnd D k+2,?_,by omega⟩;rw [ck_good h1,h3,if_neg (by omega)]
   ·rw [key_quote hq ht];cases hx:txt D (D.c (wsEnd D k)) (wsEnd D k) with
    | good l p =>
     have hin:=txt_in D _ _ _ _ hx;rw [ck_good (hsk.trans hx)];exact hthen p l (by omega) hin.2
    | bad => rw [ck_bad (hsk.trans hx)];exact .inl rfl
    | opn => exact trivial
  ·cases hb:bareB (D.c (wsEnd D k)) with
   | true =>
    have hsk:skP D (wsEnd D k)=.good (D.sub (wsEnd D k) (bareEnd D (wsEnd D k) - wsEnd D k)) (bareEnd D (wsEnd D k)):=by
     unfold skP;rw [if_neg (by omega),if_neg (by omega),if_pos hb]
    have hin:=Doc.in_of (bareB_nz hb);have hbe:=bareEnd_ge D (wsEnd D k);rw [key_bare hq hb,ck_good hsk];exact hthen _ _ (skP_in hsk) (hbe.2 (by omega))
   | false =>
    have hsk:skP D (wsEnd D k)=.bad:=(by unfold skP;rw [if_neg (by omega),if_neg (by omega),if_neg (by simp [hb])]);rw [key_none hq hb,ck_bad hsk];exact .inl rfl
theorem ck_len (D:Doc):∀ (m k:Nat) (acc ks:List (List UInt8)) (p:Nat),D.n - k=m->ckRun D k acc=.good ks p->k<p/\ks.length<=acc.length+(p - k):=by
 intro m
 induction m using Nat.strongRecOn with
 | _ m ih =>
  intro k acc ks p hm h;cases hs:skP D k with
  | good l p1 =>
   have h1:=skP_in hs;have h2:=wsEnd_ge D p1;rw [ck_good hs] at h;split at h
   ·rename_i h46;have h3:=Doc.in_of (D:=D) (k:=wsEnd D p1) (by omega);have h4:=wsEnd_ge D (wsEnd D p1+1);have h5:=ih (D.n - wsEnd D (wsEnd D p1+1)) (by omega) _ _ _ _ rfl h;rw [qqa,List.length_singleton] at h5;omega
   ·injection h with e1 e2;subst e1 e2;rw [qqa,List.length_singleton];omega
  | bad => rw [ck_bad hs] at h;cases h
  | opn => rw [ck_opn hs] at h;cases h
def Tree.keys:Tree->List (List UInt8) | .mk _ _ _ ks => ks
theorem Tree.keys_under (t:Tree) (ks:List (List UInt8)):(t.under ks).keys=ks:=by cases t;rfl
mutual
def tSize:Tree->Nat
 | .mk K _ items _ => if K=8 then 1+lSize items else if K=9 then 1+bSize items else 1
def lSize:List Tree->Nat
 | [] => 0
 | t :: ts => tSize t+lSize ts
def bSize:List Tree->Nat
 | [] => 0
 | t :: ts => (1+t.keys.length+tSize t)+bSize ts
end
mutual
def tNds (base nx:Nat):Tree->List Nd
 | .mk K l items _ =>
  if K=8 then ⟨6,[],nx,if items.isEmpty then 0 else base+2⟩ :: lNds (base+1) items
  else if K=9 then ⟨7,[],nx,if items.isEmpty then 0 else base+2⟩ :: bNds (base+1) items
  else [⟨kmap K,l,nx,0⟩]
def lNds (base:Nat):List Tree->List Nd
 | [] => []
 | t :: ts => tNds base (if ts.isEmpty then 0 else base+tSize t+1) t++lNds (base+tSize t) ts
def bNds (base:Nat):List Tree->List Nd
 | [] => []
 | t :: ts => (⟨5,[],(if ts.isEmpty then 0 else base+(1+t.keys.length+tSize t)+1),base+t.keys.length+2⟩ :: (keyNds (base+1) t.keys++tNds (base+1+t.keys.length) (base+2) t))++bNds (base+(1+t.keys.length+tSize t)) ts
end
def kvNds (base nx:Nat) (ks:List (List UInt8)) (t:Tree):List Nd:=⟨5,[],nx,base+ks.length+2⟩ :: (keyNds (base+1) ks++tNds (base+1+ks.length) (base+2) t)
theorem tSize_mk (K:Nat) (l:List UInt8) (items:List Tree) (ks:List (List UInt8)):tSize (.mk K l items ks)=if K=8 then 1+lSize items else if K=9 then 1+bSize items else 1:=by rw [tSize]
theorem tNds_mk (base nx K:Nat) (l:List UInt8) (items:List Tree) (ks:List (List UInt8)):tNds base nx (.mk K l items ks) =
  if K=8 then ⟨6,[],nx,if items.isEmpty then 0 else base+2⟩ :: lNds (base+1) items
  else if K=9 then ⟨7,[],nx,if items.isEmpty then 0 else base+2⟩ :: bNds (base+1) items
  else [⟨kmap K,l,nx,0⟩]:=by rw [tNds]
theorem tSize_under (t:Tree) (ks:List (List UInt8)):tSize (t.under ks)=tSize t:=by
 cases t;show tSize (.mk _ _ _ _)=_;rw [tSize_mk,tSize_mk]
theorem tNds_under (base nx:Nat) (t:Tree) (ks:List (List UInt8)):tNds base nx (t.under ks)=tNds base nx t:=by
 cases t;show tNds _ _ (.mk _ _ _ _)=_;rw [tNds_mk,tNds_mk]
theorem tSize_pos (t:Tree):0<tSize t:=by
 cases t;rw [tSize_mk];split
 ·omega
 ·split <;> omega
mutual
theorem tNds_len:∀ (t:Tree) (base nx:Nat),(tNds base nx t).length=tSize t
 | .mk K l items ks,base,nx => by
  rw [tNds,tSize];split
  ·rw [List.length_cons,lNds_len items];omega
  ·split
   ·rw [List.length_cons,bNds_len items];omega
   ·rfl
theorem lNds_len:∀ (ts:List Tree) (base:Nat),(lNds base ts).length=lSize ts
 | [],base => by rw [lNds,lSize];rfl
 | t :: ts,base => by rw [lNds,lSize,qqa,tNds_len t,lNds_len ts]
theorem bNds_len:∀ (ts:List Tree) (base:Nat),(bNds base ts).length=bSize ts
 | [],base => by rw [bNds,bSize];rfl
 | t :: ts,base => by
  rw [bNds,bSize,qqa,List.length_cons,qqa,keyNds_len,tNds_len t,bNds_len ts];omega
end
theorem kvNds_len (base nx:Nat) (ks:List (List UInt8)) (t:Tree):(kvNds base nx ks t).length=1+ks.length+tSize t:=by
 unfold kvNds;rw [List.length_cons,qqa,keyNds_len,tNds_len];omega
theorem tNds_next (t:Tree) (base nx x:Nat):setNext (tNds base nx t) 0 x=tNds base x t:=by
 cases t with
 | mk K l items ks =>
  rw [tNds_mk,tNds_mk];split
  ·rfl
  ·split <;> rfl
def cNds (g:Nat->Nat->Tree->List Nd) (s:Tree->Nat) (base:Nat):List Tree->List Nd
 | [] => []
 | t :: ts => g base (if ts.isEmpty then 0 else base+s t+1) t++cNds g s (base+s t) ts
def cSize (s:Tree->Nat):List Tree->Nat
 | [] => 0
 | t :: ts => s t+cSize s ts
def cLst (s:Tree->Nat) (base:Nat):List Tree->Nat
 | [] => base
 | [_] => base
 | t :: u :: ts => cLst s (base+s t) (u :: ts)
structure Chunk (g:Nat->Nat->Tree->List Nd) (s:Tree->Nat):Prop where
 len:∀ b x t,(g b x t).length=s t
 pos:∀ t,0<s t
 next:∀ b x y t,setNext (g b x t) 0 y=g b y t
section
variable {g:Nat->Nat->Tree->List Nd} {s:Tree->Nat}
theorem cNds_len (h:Chunk g s):∀ (ts:List Tree) (base:Nat),(cNds g s base ts).length=cSize s ts
 | [],_ => rfl
 | t :: ts,base => by rw [cNds,qqa,h.len,cNds_len h ts,cSize]
theorem cSize_snoc:∀ (ts:List Tree) (t:Tree),cSize s (ts++[t])=cSize s ts+s t
 | [],t => by rw [List.nil_append,cSize,cSize,cSize];omega
 | u :: ts,t => by rw [List.cons_append,cSize,cSize,cSize_snoc ts t];omega
theorem cLst_in (h:Chunk g s):∀ (ts:List Tree) (base:Nat),ts ≠ []->base<=cLst s base ts/\cLst s base ts<base+cSize s ts
 | [],_,hne => absurd rfl hne
 | [t],base,_ => by have:=h.pos t;rw [cLst,cSize,cSize];omega
 | t :: u :: ts,base,_ => by
  have:=cLst_in h (u :: ts) (base+s t) (by simp);rw [cLst,cSize];omega
theorem cLst_snoc:∀ (ts:List Tree) (t:Tree) (base:Nat),cLst s base (ts++[t])=base+cSize s ts
 | [],_,_ => rfl
 | [u],t,base => by rw [List.cons_append,List.nil_append,cLst,cLst,cSize,cSize];omega
 | u :: v :: ts,t,base => by
  have:=cLst_snoc (v :: ts) t (base+s u);rw [List.cons_append] at this;rw [List.cons_append,List.cons_append,cLst,this];show _=base+(s u+cSize s (v :: ts));omega
theorem setNext_left:∀ (ns ms:List Nd) (i x:Nat),i<ns.length->setNext (ns++ms) i x=setNext ns i x++ms
 | [],_,_,_,h => absurd h (by simp)
 | _ :: _,_,0,_,_ => rfl
 | n :: ns,ms,i+1,x,h => congrArg (n :: ·) (setNext_left ns ms i x (by simpa using h))
theorem setNext_off (ns ms:List Nd) (i k x:Nat) (h:k=ns.length+i):setNext (ns++ms) k x=ns++setNext ms i x:=by subst h;exact setNext_right ns ms i x
theorem cNds_snoc (h:Chunk g s):∀ (ts:List Tree) (t:Tree) (base:Nat),ts ≠ []->setNext (cNds g s base ts++g (base+cSize s ts) 0 t) (cLst s base ts - base) (base+cSize s ts+1)=cNds g s base (ts++[t])
 | [],_,_,hne => absurd rfl hne
 | [u],t,base,_ => by
  rw [cLst,cSize,cSize,cNds,cNds,List.append_nil,Nat.sub_self,setNext_left _ _ _ _ (by rw [h.len];exact h.pos u),h.next];show _=g base (base+s u+1) u++(g (base+s u) 0 t++[]);simp only [List.append_nil,Nat.add_zero]
 | u :: v :: ts,t,base,_ => by
  have ih:=cNds_snoc h (v :: ts) t (base+s u) (by simp);have hl:=cLst_in h (v :: ts) (base+s u) (by simp);rw [cLst,cNds,List.append_assoc,setNext_off _ _ (cLst s (base+s u) (v :: ts) - (base+s u)) _ _ (by rw [h.len];omega),
   show base+cSize s (u :: v :: ts)=base+s u+cSize s (v :: ts) by rw [cSize];omega,ih]
  rfl
end
theorem chT:Chunk tNds tSize:=⟨fun b x t => tNds_len t b x,tSize_pos,fun b x y t => tNds_next t b x y⟩
def kvT (base nx:Nat) (t:Tree):List Nd:=kvNds base nx t.keys t
def kvS (t:Tree):Nat:=1+t.keys.length+tSize t
theorem chB:Chunk kvT kvS:=⟨fun b x t => kvNds_len b x t.keys t,fun t => by unfold kvS;omega,fun _ _ _ _ => rfl⟩
theorem lNds_c:∀ (ts:List Tree) (base:Nat),lNds base ts=cNds tNds tSize base ts
 | [],_ => by rw [lNds];rfl
 | t :: ts,base => by rw [lNds,cNds,lNds_c ts]
theorem bNds_c:∀ (ts:List Tree) (base:Nat),bNds base ts=cNds kvT kvS base ts
 | [],_ => by rw [bNds];rfl
 | t :: ts,base => by rw [bNds,cNds,bNds_c ts];rfl
theorem lSize_c:∀ (ts:List Tree),lSize ts=cSize tSize ts
 | [] => by rw [lSize];rfl
 | t :: ts => by rw [lSize,cSize,lSize_c ts]
theorem bSize_c:∀ (ts:List Tree),bSize ts=cSize kvS ts
 | [] => by rw [bSize];rfl
 | t :: ts => by rw [bSize,cSize,bSize_c ts];rfl
def hdNds (g:Nat->Nat->Tree->List Nd) (s:Tree->Nat) (K base:Nat) (acc:List Tree):List Nd:=⟨K,[],0,if acc.isEmpty then 0 else base+2⟩ :: cNds g s (base+1) acc
theorem hdNds_len {g:Nat->Nat->Tree->List Nd} {s:Tree->Nat} (h:Chunk g s) (K base:Nat) (acc:List Tree):(hdNds g s K base acc).length=1+cSize s acc:=by
 unfold hdNds;rw [List.length_cons,cNds_len h];omega
def lstH (s:Tree->Nat) (base:Nat) (acc:List Tree):Nat:=if acc.isEmpty then 0 else cLst s (base+1) acc+1
def appNds (ns:List Nd) (arr lc h:Nat):List Nd:=if lc=0 then setChild ns (arr - 1) h else setNext ns (lc - 1) h
theorem setChild_right:∀ (ns ms:List Nd) (i x:Nat),setChild (ns++ms) (ns.length+i) x=ns++setChild ms i x
 | [],ms,i,x => by simp
 | n :: ns,ms,i,x => by
  rw [List.cons_append,List.length_cons,show ns.length+1+i=(ns.length+i)+1 by omega];exact congrArg (n :: ·) (setChild_right ns ms i x)
theorem app_law {g:Nat->Nat->Tree->List Nd} {s:Tree->Nat} (h:Chunk g s) (ns:List Nd) (K:Nat) (acc:List Tree) (t:Tree) :
  appNds (ns++hdNds g s K ns.length acc++g (ns.length+(1+cSize s acc)) 0 t) (ns.length+1) (lstH s ns.length acc) (ns.length+(1+cSize s acc)+1)=ns++hdNds g s K ns.length (acc++[t]):=by
 unfold appNds lstH;cases acc with
 | nil =>
  rw [if_pos (by rfl),List.append_assoc];have:=setChild_right ns (hdNds g s K ns.length []++g (ns.length+(1+cSize s [])) 0 t) 0 (ns.length+(1+cSize s [])+1);rw [Nat.add_zero] at this;rw [Nat.add_sub_cancel,this]
  congr 1
  unfold hdNds;rw [List.nil_append,cNds,cNds,cNds,List.append_nil]
  rfl
 | cons u ts =>
  have hl:=cLst_in h (u :: ts) (ns.length+1) (by simp);rw [if_neg (by show ¬ (cLst s (ns.length+1) (u :: ts)+1=0);omega),List.append_assoc];show setNext (ns++(⟨K,[],0,ns.length+2⟩ :: cNds g s (ns.length+1) (u :: ts)++g (ns.length+(1+cSize s (u :: ts))) 0 t)) (cLst s (ns.length+1) (u :: ts)+1 - 1) (ns.length+(1+cSize s (u :: ts))+1)=_;rw [Nat.add_sub_cancel,setNext_off _ _ (cLst s (ns.length+1) (u :: ts) - ns.length) _ _ (by omega)]
  congr 1
  rw [List.cons_append,show cLst s (ns.length+1) (u :: ts) - ns.length=(cLst s (ns.length+1) (u :: ts) - (ns.length+1))+1 by omega];show (⟨K,[],0,ns.length+2⟩:Nd) :: setNext _ _ _=_;rw [show ns.length+(1+cSize s (u :: ts))=ns.length+1+cSize s (u :: ts) by omega,cNds_snoc h _ _ _ (by simp)]
  rfl
theorem lstH_snoc {g:Nat->Nat->Tree->List Nd} {s:Tree->Nat} (_h:Chunk g s) (base:Nat) (acc:List Tree) (t:Tree):lstH s base (acc++[t])=base+(1+cSize s acc)+1:=by
 unfold lstH;rw [if_neg (by simp),cLst_snoc];omega
theorem lstH_le {g:Nat->Nat->Tree->List Nd} {s:Tree->Nat} (h:Chunk g s) (base:Nat) (acc:List Tree):lstH s base acc<=base+(1+cSize s acc):=by
 unfold lstH;split
 ·omega
 ·rename_i hne;have:=cLst_in h acc (base+1) (by intro e;subst e;simp at hne);omega
theorem hd_list (base:Nat) (acc:List Tree) (ks:List (List UInt8)):hdNds tNds tSize 6 base acc=tNds base 0 (.mk 8 [] acc ks):=by
 rw [tNds_mk,if_pos rfl,lNds_c];rfl
theorem hd_table (base:Nat) (acc:List Tree) (ks:List (List UInt8)):hdNds kvT kvS 7 base acc=tNds base 0 (.mk 9 [] acc ks):=by
 rw [tNds_mk,if_neg (by omega),if_pos rfl,bNds_c];rfl
def ctxB (D:Doc) (p:Nat):Prop:=letB (D.c p)\/D.c p=34\/D.c p=39
theorem wsEnd_idem (D:Doc) (k:Nat):wsEnd D (wsEnd D k)=wsEnd D k:=wsEnd_stop (wsEnd_not D k)
theorem spc_go {D:Doc} {k k2:Nat} (h:cmt D (wsEnd D k)=.good () k2):spc D k=if nlen D k2=0 then .good () k2 else spc D (k2+nlen D k2):=by
 rw [spc];split
 ·rename_i h';rw [h] at h';injection h' with _ h';subst h';rfl
 ·rename_i h';exact absurd h (h' () k2)
theorem spc_bad {D:Doc} {k:Nat} (h:cmt D (wsEnd D k)=.bad):spc D k=.bad:=by
 rw [spc];split
 ·rename_i h';rw [h] at h';cases h'
 ·rfl
theorem spc_ws (D:Doc) (k:Nat):spc D (wsEnd D k)=spc D k:=by
 cases h:cmt D (wsEnd D k) with
 | good u k2 => rw [spc_go (k:=k) h,spc_go (k:=wsEnd D k) (by rw [wsEnd_idem];exact h)]
 | bad => rw [spc_bad (k:=k) h,spc_bad (k:=wsEnd D k) (by rw [wsEnd_idem];exact h)]
 | opn => exact absurd h (cmt_not_opn D _)
theorem nlen_char {D:Doc} {k:Nat} (h:nlen D k ≠ 0):D.c k=10\/D.c k=13:=by
 unfold nlen at h;by_cases a:D.c k=10
 ·exact .inl a
 ·rw [if_neg a] at h;by_cases b:D.c k=13/\D.c (k+1)=10
  ·exact .inr b.1
  ·rw [if_neg b] at h;exact absurd rfl h
theorem spc_nl {D:Doc} {k:Nat} (h:nlen D k ≠ 0):spc D k=spc D (k+nlen D k):=by
 have hc:=nlen_char h;have h1:wsEnd D k=k:=wsEnd_stop (by omega);have h2:cmt D (wsEnd D k)=.good () k:=by rw [h1];unfold cmt;rw [if_neg (by omega)]
 rw [spc_go h2,if_neg h]
theorem spc_at {D:Doc} {k:Nat} (h1:D.c k ≠ 32/\D.c k ≠ 9/\D.c k ≠ 35) (h:nlen D k=0):spc D k=.good () k:=by
 have h2:wsEnd D k=k:=wsEnd_stop (by omega);have h3:cmt D (wsEnd D k)=.good () k:=by rw [h2];unfold cmt;rw [if_neg (by omega)]
 rw [spc_go h3,if_pos h]
theorem cmtRun_stop (D:Doc):∀ (m k k2:Nat),D.n - k=m->cmtRun D k=.good () k2->D.n<=k2\/nlen D k2 ≠ 0:=by
 intro m
 induction m using Nat.strongRecOn with
 | _ m ih =>
  intro k k2 hm h;rw [cmtRun] at h;split at h
  ·injection h with _ h;subst h;exact .inl (by assumption)
  split at h
  ·injection h with _ h;subst h;exact .inr (by assumption)
  split at h
  ·cases h
  ·exact ih (D.n - (k+sg D k)) (by omega) _ k2 rfl h
theorem spc_cmt {D:Doc} {k k2:Nat} (h:D.c k=35) (hc:cmtRun D k=.good () k2):spc D k=spc D k2:=by
 have h1:wsEnd D k=k:=wsEnd_stop (by omega);have h2:cmt D (wsEnd D k)=.good () k2:=by rw [h1];unfold cmt;rw [if_pos h];exact hc
 have h4:=cmtRun_stop D _ k k2 rfl hc;rw [spc_go h2];rcases h4 with h4 | h4
 ·have h5:=D.out k2 h4;have hn:nlen D k2=0:=by unfold nlen;rw [if_neg (by omega),if_neg (by omega)]
  rw [if_pos hn,spc_at (by omega) hn]
 ·rw [if_neg h4,spc_nl h4]
theorem spc_cmtb {D:Doc} {k:Nat} (h:D.c k=35) (hc:cmtRun D k=.bad):spc D k=.bad:=by
 have h1:wsEnd D k=k:=wsEnd_stop (by omega);exact spc_bad (by rw [h1];unfold cmt;rw [if_pos h];exact hc)
theorem spc_not_opnI (D:Doc) (k:Nat):spc D k ≠ .opn:=by
 have:∀ m k,D.n - k=m->spc D k ≠ .opn:=by
  intro m
  induction m using Nat.strongRecOn with
  | _ m ih =>
   intro k hm;cases h:cmt D (wsEnd D k) with
   | good u k2 =>
    rw [spc_go h];split
    ·intro h;cases h
    ·rename_i hn;have h1:=cmt_ge D _ _ h;have h2:=wsEnd_ge D k;have h3:=nlen_inq hn;exact ih (D.n - (k2+nlen D k2)) (by omega) _ rfl
   | bad => rw [spc_bad h];intro h;cases h
   | opn => exact absurd h (cmt_not_opn D _)
 exact this _ k rfl
structure FOk (D:Doc) (f:Nat->R Tree):Prop where
 rg:∀ k v p,k<=D.n->f k=.good v p->k<p/\p<=D.n
 sz:∀ k v p,k<=D.n->f k=.good v p->tSize v<=p - k
 no:∀ k v p,D.c k=0\/D.c k=13\/D.c k=44->f k ≠ .good v p
def lstAft (D:Doc) (f:Nat->R Tree) (j:Nat) (acc:List Tree):R Tree :=
 match spc D j with
 | .good _ k3 => if D.c k3=44 then lstRun D f (k3+1) acc else if D.c k3=93 then .good (.mk 8 [] acc []) (k3+1) else .bad
 | _ => .bad
def lstVal (D:Doc) (f:Nat->R Tree) (acc:List Tree):R Tree->R Tree | .good v k2 => lstAft D f k2 (acc++[v]) | .bad => .bad | .opn => .opn
theorem lst_good {D:Doc} {f:Nat->R Tree} (hf:FOk D f) {k k1:Nat} {acc:List Tree} (hk:k<=D.n) (h:spc D k=.good () k1) :
  lstRun D f k acc=if D.c k1=93 then .good (.mk 8 [] acc []) (k1+1) else lstVal D f acc (f k1):=by
 have hr:=spc_rg D _ k k1 rfl h;rw [lstRun,h];dsimp only;split
 ·rfl
 ·cases hv:f k1 with
  | good v k2 =>
   have h2:=hf.rg k1 v k2 (hr.2 hk) hv;dsimp only;rw [dif_pos ⟨by omega,h2.2⟩];show _=lstAft D f k2 (acc++[v]);unfold lstAft;split
   ·rename_i hs;rw [hs];rfl
   ·rename_i hs;rw [hs]
   ·rename_i hs;exact absurd hs (spc_not_opnI D k2)
  | bad => rfl
  | opn => rfl
theorem lst_deadI {D:Doc} {f:Nat->R Tree} {k:Nat} {acc:List Tree} (h:spc D k=.bad):lstRun D f k acc=(f D.n).dead:=by
 rw [lstRun,h]
def lstS (D:Doc) (f:Nat->R Tree) (av:Bool) (j:Nat) (acc:List Tree):R Tree:=if av then lstAft D f j acc else lstRun D f j acc
theorem lstS_spc {D:Doc} {f:Nat->R Tree} (hf:FOk D f) {j j':Nat} (hj:j<=D.n) (hj':j'<=D.n) (h:spc D j=spc D j') (av:Bool) (acc:List Tree):lstS D f av j acc=lstS D f av j' acc:=by
 unfold lstS;cases av with
 | true => rw [if_pos rfl,if_pos rfl];unfold lstAft;rw [h]
 | false =>
  rw [if_neg (by simp),if_neg (by simp)];cases hs:spc D j with
  | good u k1 => rw [lst_good hf hj hs,lst_good hf hj' (by rw [<- h];exact hs)]
  | bad => rw [lst_deadI hs,lst_deadI (by rw [<- h];exact hs)]
  | opn => exact absurd hs (spc_not_opnI D j)
theorem lstS_ws {D:Doc} {f:Nat->R Tree} (hf:FOk D f) {j:Nat} (hj:j<=D.n) (av:Bool) (acc:List Tree):lstS D f av (wsEnd D j) acc=lstS D f av j acc :=
 lstS_spc hf (by have:=wsEnd_le D j;omega) hj (spc_ws D j) av acc
theorem lstS_nl {D:Doc} {f:Nat->R Tree} (hf:FOk D f) {j:Nat} (hj:j<=D.n) (h:nlen D j ≠ 0) (av:Bool) (acc:List Tree):lstS D f av (j+nlen D j) acc=lstS D f av j acc :=
 lstS_spc hf (nlen_inq h) hj (spc_nl h).symm av acc
theorem dead_bad {r:R Tree} (h:(r.dead:R Tree) ≠ .opn):(r.dead:R Tree)=.bad:=by
 cases r with
 | good v k => rfl
 | bad => rfl
 | opn => exact absurd rfl h
theorem lstS_cmt {D:Doc} {f:Nat->R Tree} (hf:FOk D f) {j k2:Nat} (hj:j<=D.n) (h:D.c j=35) (hc:cmtRun D j=.good () k2) (av:Bool) (acc:List Tree):lstS D f av k2 acc=lstS D f av j acc :=
 lstS_spc hf (by have:=cmtRun_le D _ _ hc;omega) hj (spc_cmt h hc).symm av acc
theorem lstS_cmtb {D:Doc} {f:Nat->R Tree} {j:Nat} (h:D.c j=35) (hc:cmtRun D j=.bad) (av:Bool) (acc:List Tree) (hno:lstS D f av j acc ≠ .opn):lstS D f av j acc=.bad:=by
 have hs:=spc_cmtb h hc;unfold lstS at *;cases av with
 | true => rw [if_pos rfl];unfold lstAft;rw [hs]
 | false => rw [if_neg (by simp)] at *;rw [lst_deadI hs] at *;exact dead_bad hno
theorem lstS_close {D:Doc} {f:Nat->R Tree} (hf:FOk D f) {j:Nat} (hj:j<=D.n) (h:D.c j=93) (av:Bool) (acc:List Tree):lstS D f av j acc=.good (.mk 8 [] acc []) (j+1):=by
 have hs:spc D j=.good () j:=spc_at (by omega) (by unfold nlen;rw [if_neg (by omega),if_neg (by omega)]);unfold lstS;cases av with
 | true => rw [if_pos rfl];unfold lstAft;rw [hs];dsimp only;rw [if_neg (by omega),if_pos h]
 | false => rw [if_neg (by simp),lst_good hf hj hs,if_pos h]
theorem lstS_bad {D:Doc} {f:Nat->R Tree} (hf:FOk D f) {j:Nat} (hj:j<=D.n) (h:D.c j=0\/(D.c j=13/\nlen D j=0)) (av:Bool) (acc:List Tree) (hno:lstS D f av j acc ≠ .opn):lstS D f av j acc=.bad:=by
 have hs:spc D j=.good () j:=spc_at (by omega) (by rcases h with h | h;(unfold nlen;rw [if_neg (by omega),if_neg (by omega)]);exact h.2);unfold lstS at *;cases av with
 | true => rw [if_pos rfl];unfold lstAft;rw [hs];dsimp only;rw [if_neg (by omega),if_neg (by omega)]
 | false =>
  rw [if_neg (by simp)] at *;rw [lst_good hf hj hs,if_neg (by omega)] at *;cases hv:f j with
  | good v p => exact absurd hv (hf.no j v p (by omega))
  | bad => rfl
  | opn => rw [hv] at hno;exact absurd rfl hno
theorem lstS_comma {D:Doc} {f:Nat->R Tree} {j:Nat} (h:D.c j=44) (acc:List Tree):lstS D f true j acc=lstS D f false (j+1) acc:=by
 have hs:spc D j=.good () j:=spc_at (by omega) (by unfold nlen;rw [if_neg (by omega),if_neg (by omega)]);unfold lstS;rw [if_pos rfl,if_neg (by simp)];unfold lstAft;rw [hs];dsimp only;rw [if_pos h]
theorem lstS_comma0 {D:Doc} {f:Nat->R Tree} (hf:FOk D f) {j:Nat} (hj:j<=D.n) (h:D.c j=44) (acc:List Tree) (hno:lstS D f false j acc ≠ .opn):lstS D f false j acc=.bad:=by
 have hs:spc D j=.good () j:=spc_at (by omega) (by unfold nlen;rw [if_neg (by omega),if_neg (by omega)]);unfold lstS at *;rw [if_neg (by simp)] at *;rw [lst_good hf hj hs,if_neg (by omega)] at *;cases hv:f j with
 | good v p => exact absurd hv (hf.no j v p (by omega))
 | bad => rfl
 | opn => rw [hv] at hno;exact absurd rfl hno
def lstO (D:Doc) (j:Nat):Prop:=D.c j ≠ 32/\D.c j ≠ 9/\D.c j ≠ 35/\D.c j ≠ 93/\D.c j ≠ 44/\D.c j ≠ 10/\D.c j ≠ 13
theorem lstS_other {D:Doc} {f:Nat->R Tree} (hf:FOk D f) {j:Nat} (hj:j<=D.n) (h:lstO D j) (acc:List Tree):lstS D f true j acc=.bad/\lstS D f false j acc=lstVal D f acc (f j):=by
 unfold lstO at h;have hs:spc D j=.good () j:=spc_at (by omega) (by unfold nlen;rw [if_neg (by omega),if_neg (by omega)]);unfold lstS;refine ⟨?_,?_⟩
 ·rw [if_pos rfl];unfold lstAft;rw [hs];dsimp only;rw [if_neg (by omega),if_neg (by omega)]
 ·rw [if_neg (by simp),lst_good hf hj hs,if_neg (by omega)]
theorem ctxB_char {D:Doc} {p:Nat} (h:ctxB D p):lstO D p/\D.c p ≠ 125/\D.c p ≠ 61/\D.c p ≠ 0:=by
 unfold ctxB letB at h;unfold lstO;omega
theorem lstS_ctx {D:Doc} {f:Nat->R Tree} (hf:FOk D f) {j:Nat} (hj:j<=D.n) (h:ctxB D j) (acc:List Tree):lstS D f true j acc=.bad:=(lstS_other hf hj (ctxB_char h).1 acc).1
def kvThen (ks:List (List UInt8)):R Tree->R (List (List UInt8) × Tree) | .good v k3 => .good (ks,v) k3 | .bad => .bad | .opn => .opn
def kvR2 (D:Doc) (f:Nat->R Tree) (k:Nat):R (List (List UInt8) × Tree) :=
 match keyP D k with
 | .good ks k1 => if D.c k1=61 then kvThen ks (f (wsEnd D (k1+1))) else .bad
 | .bad => .bad
 | .opn => .opn
def tabAft (D:Doc) (f:Nat->R Tree) (j:Nat) (acc:List Tree):R Tree :=
 match tabNx D j with | .comma k5 => tabRun D f k5 acc | .fin k4 => .good (.mk 9 [] acc []) k4 | .bad => .bad | .opn => .opn
def tabVal (D:Doc) (f:Nat->R Tree) (acc:List Tree):R (List (List UInt8) × Tree)->R Tree | .good x k2 => tabAft D f k2 (acc++[x.2.under x.1]) | .bad => .bad | .opn => .opn
theorem tab_eq {D:Doc} {f:Nat->R Tree} (hf:FOk D f) (k:Nat) (acc:List Tree):tabRun D f k acc=tabVal D f acc (kvR2 D f k):=by
 rw [tabRun];unfold kvR2;cases hk:keyP D k with
 | good ks k1 =>
  dsimp only;have h1:=keyP_ge D k k1 ks hk;by_cases h61:D.c k1=61
  ·rw [if_neg (by omega),if_pos h61];have h2:=Doc.in_of (D:=D) (k:=k1) (by omega);have h3:=wsEnd_ge D (k1+1);have h4:=wsEnd_le D (k1+1);cases hv:f (wsEnd D (k1+1)) with
   | good v k3 =>
    have h5:=hf.rg _ v k3 (by omega) hv;dsimp only;rw [dif_pos ⟨by omega,h5.2⟩];show _=tabAft D f k3 (acc++[v.under ks]);unfold tabAft;split
    ·rename_i hs;rw [hs]
    ·rename_i hs;rw [hs]
    ·rename_i hs;rw [hs]
    ·rename_i hs;rw [hs]
   | bad => rfl
   | opn => rfl
  ·rw [if_pos h61,if_neg h61];rfl
 | bad => rfl
 | opn => rfl
theorem tabNx_ws (D:Doc) (k:Nat):tabNx D (wsEnd D k)=tabNx D k:=by unfold tabNx;rw [wsEnd_idem]
theorem tabP_ws (D:Doc) (f:Nat->R Tree) (k:Nat):tabP D f (wsEnd D k)=tabP D f k:=by unfold tabP;rw [wsEnd_idem]
def tabS (D:Doc) (f:Nat->R Tree) (av:Bool) (j:Nat) (acc:List Tree) (r:R Tree):Prop :=
 if av then tabAft D f j acc=r else (tabP D f j=r/\acc=[])\/(tabRun D f (wsEnd D j) acc=r/\D.c (wsEnd D j) ≠ 125/\¬ latB D (wsEnd D j))
theorem tabS_ws {D:Doc} {f:Nat->R Tree} {j:Nat} {av:Bool} {acc:List Tree} {r:R Tree} (h:tabS D f av j acc r):tabS D f av (wsEnd D j) acc r:=by
 unfold tabS at *;cases av with
 | true => rw [if_pos rfl] at *;unfold tabAft at *;rw [tabNx_ws];exact h
 | false =>
  rw [if_neg (by simp)] at *;rw [tabP_ws,wsEnd_idem];exact h
def noWs (D:Doc) (j:Nat):Prop:=D.c j ≠ 32/\D.c j ≠ 9
theorem noWs_end (D:Doc) (k:Nat):noWs D (wsEnd D k):=by have:=wsEnd_not D k;unfold noWs;omega
theorem noWs.stop {D:Doc} {j:Nat} (h:noWs D j):wsEnd D j=j:=wsEnd_stop (by unfold noWs at h;omega)
theorem tabS_lat {D:Doc} {f:Nat->R Tree} {j:Nat} {av:Bool} {acc:List Tree} {r:R Tree} (h:tabS D f av j acc r) (hn:noWs D j) (hl:latB D j):r=.opn:=by
 have hl':=hl;unfold latB at hl';unfold tabS at h;cases av with
 | true => rw [if_pos rfl] at h;unfold tabAft tabNx at h;rw [hn.stop,if_neg (by omega),if_neg (by omega),if_pos hl] at h;exact h.symm
 | false =>
  rw [if_neg (by simp)] at h;rcases h with ⟨h,_⟩ | ⟨_,_,h⟩
  ·unfold tabP at h;rw [hn.stop,if_neg (by omega),if_pos hl] at h;exact h.symm
  ·rw [hn.stop] at h;exact absurd hl h
theorem tabS_close {D:Doc} {f:Nat->R Tree} {j:Nat} {av:Bool} {acc:List Tree} {r:R Tree} (h:tabS D f av j acc r) (hn:noWs D j) (hl:D.c j=125):r=.good (.mk 9 [] acc []) (j+1):=by
 unfold tabS at h;cases av with
 | true => rw [if_pos rfl] at h;unfold tabAft tabNx at h;rw [hn.stop,if_neg (by omega),if_pos hl] at h;exact h.symm
 | false =>
  rw [if_neg (by simp)] at h;rcases h with ⟨h,rfl⟩ | ⟨_,h,_⟩
  ·unfold tabP at h;rw [hn.stop,if_pos hl] at h;exact h.symm
  ·rw [hn.stop] at h;exact absurd hl h
theorem tabS_key {D:Doc} {f:Nat->R Tree} (hf:FOk D f) {j:Nat} {acc:List Tree} {r:R Tree} (h:tabS D f false j acc r) (hn:noWs D j) (h1:D.c j ≠ 125) (h2:¬ latB D j):r=tabVal D f acc (kvR2 D f j):=by
 unfold tabS at h;rw [if_neg (by simp)] at h;rcases h with ⟨h,rfl⟩ | ⟨h,_,_⟩
 ·unfold tabP at h;rw [hn.stop,if_neg h1,if_neg h2,tab_eq hf] at h;exact h.symm
 ·rw [hn.stop,tab_eq hf] at h;exact h.symm
theorem keyP_not {D:Doc} {k:Nat} (h:D.c k=0\/D.c k=44):keyP D k=.bad:=by
 have h2:wsEnd D k=k:=wsEnd_stop (by omega);refine key_none (by rw [h2];omega) ?_;rw [h2];rcases h with h | h <;> rw [h] <;> rfl
theorem tabS_nokey {D:Doc} {f:Nat->R Tree} (hf:FOk D f) {j:Nat} {acc:List Tree} {r:R Tree} (h:tabS D f false j acc r) (hn:noWs D j) (h1:D.c j=0\/D.c j=44):r=.bad:=by
 rw [tabS_key hf h hn (by omega) (by unfold latB;omega)];unfold kvR2;rw [keyP_not h1];rfl
theorem tabS_comma {D:Doc} {f:Nat->R Tree} {j:Nat} {acc:List Tree} {r:R Tree} (h:tabS D f true j acc r) (hn:noWs D j) (h1:D.c j=44) (hno:r ≠ .opn):tabS D f false (j+1) acc r:=by
 unfold tabS at *;rw [if_pos rfl] at h;rw [if_neg (by simp)];unfold tabAft tabNx at h;rw [hn.stop,if_pos h1] at h;by_cases a:D.c (wsEnd D (j+1))=125
 ·rw [if_pos a] at h;exact absurd h.symm hno
 rw [if_neg a] at h;by_cases b:latB D (wsEnd D (j+1))
 ·rw [if_pos b] at h;exact absurd h.symm hno
 rw [if_neg b] at h;exact .inr ⟨h,a,b⟩
theorem tabS_aft {D:Doc} {f:Nat->R Tree} {j:Nat} {acc:List Tree} {r:R Tree} (h:tabS D f true j acc r) (hn:noWs D j) (h1:D.c j ≠ 44/\D.c j ≠ 125) (h2:¬ latB D j):r=.bad:=by
 unfold tabS tabAft tabNx at h;rw [if_pos rfl,hn.stop,if_neg h1.1,if_neg h1.2,if_neg h2] at h;exact h.symm
theorem ctxB_no {D:Doc} {p:Nat} (h:ctxB D p):noWs D p/\¬ latB D p:=by
 have:=(ctxB_char h).1;unfold lstO at this;unfold noWs latB;omega
theorem tabS_ctx {D:Doc} {f:Nat->R Tree} {j:Nat} {acc:List Tree} {r:R Tree} (h:tabS D f true j acc r) (hc:ctxB D j):r=.bad:=by
 have h1:=ctxB_char hc;have h2:=ctxB_no hc;exact tabS_aft h h2.1 (by have:=h1.1;unfold lstO at this;omega) h2.2
theorem keyRun_cnt (D:Doc):∀ (m k k':Nat) (acc l:List (List UInt8)),D.n - k=m->keyRun D k acc=.good l k'->l.length<=acc.length+(k' - k):=by
 intro m
 induction m using Nat.strongRecOn with
 | _ m ih =>
  intro k k' acc l hm h;have h1:=wsEnd_ge D k;have hthen:∀ (j:Nat) (a:List (List UInt8)),k<j->j<=D.n->a.length<=acc.length+1->keyThen D j a=.good l k'->l.length<=acc.length+(k' - k):=by
   intro j a hj hj2 ha ht;have h2:=wsEnd_ge D j;unfold keyThen at ht;by_cases hc:D.c (wsEnd D j)=46
   ·rw [if_pos hc] at ht;have:=Doc.in_of (D:=D) (k:=wsEnd D j) (by omega);have h3:=ih (D.n - (wsEnd D j+1)) (by omega) (wsEnd D j+1) k' a l rfl ht;have h4:=keyRun_ge D _ (wsEnd D j+1) k' a l rfl ht;omega
   ·rw [if_neg hc] at ht;injection ht with e1 ht;subst e1;omega
  by_cases hq:D.c (wsEnd D k)=34\/D.c (wsEnd D k)=39
  ·by_cases ht:three D (D.c (wsEnd D k)) (wsEnd D k)
   ·rw [key_three hq ht] at h;cases h
   ·rw [key_quote hq ht] at h;cases hx:txt D (D.c (wsEnd D k)) (wsEnd D k) with
    | good l' k2 =>
     rw [hx] at h;have h4:=txt_in D _ _ _ _ hx;exact hthen k2 _ (by omega) h4.2 (by simp) h
    | bad => rw [hx] at h;cases h
    | opn => rw [hx] at h;cases h
  ·cases hb:bareB (D.c (wsEnd D k)) with
   | true =>
    rw [key_bare hq hb] at h;have h5:=bareEnd_go hb;have h6:=(bareEnd_ge D (wsEnd D k+1)).1;have h7:=Doc.in_of (bareB_nz hb);have h8:=(bareEnd_ge D (wsEnd D k)).2 (by omega);exact hthen _ _ (by omega) h8 (by simp) h
   | false => rw [key_none hq hb] at h;cases h
theorem lSize_snoc (acc:List Tree) (t:Tree):lSize (acc++[t])=lSize acc+tSize t:=by rw [lSize_c,lSize_c,cSize_snoc]
theorem bSize_snoc (acc:List Tree) (t:Tree) (ks:List (List UInt8)):bSize (acc++[t.under ks])=bSize acc+(1+ks.length+tSize t):=by
 rw [bSize_c,bSize_c,cSize_snoc];unfold kvS;rw [Tree.keys_under,tSize_under]
theorem lst_size {D:Doc} {f:Nat->R Tree} (hf:FOk D f):∀ (m k:Nat) (acc:List Tree) (t:Tree) (p:Nat),D.n - k=m->k<=D.n->lstRun D f k acc=.good t p->tSize t<=lSize acc+(p - k):=by
 intro m
 induction m using Nat.strongRecOn with
 | _ m ih =>
  intro k acc t p hm hk h;cases hs:spc D k with
  | good u k1 =>
   have h1:=spc_rg D _ k k1 rfl hs;rw [lst_good hf hk hs] at h;split at h
   ·injection h with e1 e2;subst e1 e2;rw [tSize_mk,if_pos rfl];omega
   ·cases hv:f k1 with
    | good v k2 =>
     rw [hv] at h;have h2:=hf.rg k1 v k2 (by omega) hv;have h3:=hf.sz k1 v k2 (by omega) hv;have h:lstAft D f k2 (acc++[v])=.good t p:=h;unfold lstAft at h;cases hs2:spc D k2 with
     | good u k3 =>
      have h4:=spc_rg D _ k2 k3 rfl hs2;rw [hs2] at h;dsimp only at h;split at h
      ·have h5:=Doc.in_of (D:=D) (k:=k3) (by omega);have h6:=ih (D.n - (k3+1)) (by omega) (k3+1) _ t p rfl (by omega) h;have h7:=lst_in D f _ (k3+1) _ t p rfl h;rw [lSize_snoc] at h6;omega
      ·split at h
       ·injection h with e1 e2;subst e1 e2;rw [tSize_mk,if_pos rfl,lSize_snoc];omega
       ·cases h
     | bad => rw [hs2] at h;cases h
     | opn => rw [hs2] at h;cases h
    | bad => rw [hv] at h;cases h
    | opn => rw [hv] at h;cases h
  | bad => rw [lst_deadI hs] at h;unfold R.dead at h;split at h <;> cases h
  | opn => exact absurd hs (spc_not_opnI D k)
theorem kvR2_sz {D:Doc} {f:Nat->R Tree} (hf:FOk D f) {k p:Nat} {x:List (List UInt8) × Tree} (h:kvR2 D f k=.good x p):k<p/\p<=D.n/\1+x.1.length+tSize x.2<=p - k:=by
 unfold kvR2 at h;cases hk:keyP D k with
 | good ks k1 =>
  rw [hk] at h;dsimp only at h;have h1:=keyP_ge D k k1 ks hk;have h2:=keyRun_cnt D _ k k1 [] ks rfl hk;simp only [List.length_nil,Nat.zero_add] at h2;split at h
  ·have h3:=Doc.in_of (D:=D) (k:=k1) (by omega);have h4:=wsEnd_ge D (k1+1);have h5:=wsEnd_le D (k1+1);cases hv:f (wsEnd D (k1+1)) with
   | good v k3 =>
    rw [hv] at h;have h6:=hf.rg _ v k3 (by omega) hv;have h7:=hf.sz _ v k3 (by omega) hv;injection h with e1 e2;subst e1 e2;dsimp only;omega
   | bad => rw [hv] at h;cases h
   | opn => rw [hv] at h;cases h
  ·cases h
 | bad => rw [hk] at h;cases h
 | opn => rw [hk] at h;cases h
theorem tab_size {D:Doc} {f:Nat->R Tree} (hf:FOk D f):∀ (m k:Nat) (acc:List Tree) (t:Tree) (p:Nat),D.n - k=m->tabRun D f k acc=.good t p->tSize t<=bSize acc+(p - k):=by
 intro m
 induction m using Nat.strongRecOn with
 | _ m ih =>
  intro k acc t p hm h;rw [tab_eq hf] at h;cases hx:kvR2 D f k with
  | good x k3 =>
   rw [hx] at h;have h1:=kvR2_sz hf hx;have h:tabAft D f k3 (acc++[x.2.under x.1])=.good t p:=h;unfold tabAft at h;split at h
   ·rename_i k5 hs;have h2:=tabNx_in h1.2.1 (.inl hs);have h3:=ih (D.n - k5) (by omega) k5 _ t p rfl h;have h4:=tab_in D f _ k5 _ t p rfl h;rw [bSize_snoc] at h3;omega
   ·rename_i k4 hs;have h2:=tabNx_in h1.2.1 (.inr hs);injection h with e1 e2;subst e1 e2;rw [tSize_mk,if_neg (by omega),if_pos rfl,bSize_snoc];omega
   ·cases h
   ·cases h
  | bad => rw [hx] at h;cases h
  | opn => rw [hx] at h;cases h
theorem numP_kind (D:Doc) (k p:Nat) (x:Nat × List UInt8) (h:numP D k=.good x p):x.1 ≠ 8/\x.1 ≠ 9:=by
 by_cases hd:(0<=twoRun D k 0 4/\D.c (k+4)=45)\/(0<=twoRun D k 0 2/\D.c (k+2)=58)
 ·have h1:=numD_law D k hd;rw [h] at h1;obtain ⟨_,_,_,h2⟩:=h1;have h3:dtK D k (dtRun D k none)=12\/dtK D k (dtRun D k none)=13\/dtK D k (dtRun D k none)=14\/dtK D k (dtRun D k none)=15:=by
   unfold dtK;split
   ·exact .inr (.inl rfl)
   ·split
    ·exact .inl rfl
    ·split
     ·exact .inr (.inr (.inr rfl))
     ·exact .inr (.inr (.inl rfl))
  rw [h2] at h3;constructor <;> (intro e;rw [e] at h3;revert h3;decide)
 ·unfold numP at h;rw [if_neg (by omega),if_neg (by omega)] at h;have hb:∀ b,baseN D k b=.good x p->x.1=1:=fun b hb => by unfold baseN at hb;split at hb;cases hb;injection hb with hb _;rw [<- hb]
  have he:∀ n K,expN D k n K=.good x p->x.1=2\/x.1=K:=fun n K hb => by
   unfold expN at hb;split at hb
   ·split at hb
    ·cases hb
    ·injection hb with hb _;rw [<- hb];exact .inl rfl
   ·injection hb with hb _;rw [<- hb];exact .inr rfl
  have:x.1=1\/x.1=2:=by
   split at h
   ·exact .inl (hb _ h)
   split at h
   ·exact .inl (hb _ h)
   split at h
   ·exact .inl (hb _ h)
   unfold infN at h;split at h
   ·injection h with h _;rw [<- h];exact .inr rfl
   unfold tenN at h;split at h
   ·cases h
   unfold fracN at h;split at h
   ·split at h
    ·cases h
    ·rcases he _ _ h with h | h
     ·exact .inr h
     ·exact .inr h
   ·rcases he _ _ h with h | h
    ·exact .inr h
    ·exact .inl h
  omega
theorem numP_none {D:Doc} {k:Nat} (h:D.c k=0\/D.c k=13\/D.c k=44):numP D k=.bad:=by
 have h4:¬ 0<=twoRun D k 0 4:=by rw [twoRun,if_neg (by omega)];omega
 have h2:¬ 0<=twoRun D k 0 2:=by rw [twoRun,if_neg (by omega)];omega
 have h:=numP_law D k (fun x => h4 x.1) (fun x => h2 x.1);have hb:∀ x p,numP D k ≠ .good x p:=by
  intro x p he;rw [he] at h;unfold numP at he;rw [if_neg (fun x => h4 x.1),if_neg (fun x => h2 x.1)] at he;rw [show ([48,120]:List UInt8)=[UInt8.ofNat 48,UInt8.ofNat 120] from rfl,has_2 D k 48 120 (by omega) (by omega),qqf (by omega),if_neg (by simp),
   show ([48,111]:List UInt8)=[UInt8.ofNat 48,UInt8.ofNat 111] from rfl,has_2 D k 48 111 (by omega) (by omega),qqf (by omega),if_neg (by simp),
   show ([48,98]:List UInt8)=[UInt8.ofNat 48,UInt8.ofNat 98] from rfl,has_2 D k 48 98 (by omega) (by omega),qqf (by omega),if_neg (by simp)] at he
  have hs:sgnN D k=0:=by unfold sgnN;rw [if_neg (by omega)]
  unfold infN at he;rw [hs,Nat.add_zero,show ([105,110,102]:List UInt8)=[UInt8.ofNat 105,UInt8.ofNat 110,UInt8.ofNat 102] from rfl,has_3 D k 105 110 102 (by omega) (by omega) (by omega),qqf (by omega),
   show ([110,97,110]:List UInt8)=[UInt8.ofNat 110,UInt8.ofNat 97,UInt8.ofNat 110] from rfl,has_3 D k 110 97 110 (by omega) (by omega) (by omega),qqf (by omega),if_neg (by simp)] at he
  unfold tenN at he;rw [Nat.add_zero] at he;have hg:grp D 10 k=0:=by
   rw [grp,if_pos]
   apply dgN_none
   rw [dval_10i];omega
  rw [if_pos (.inl hg)] at he;cases he
 cases hr:numP D k with
 | good x p => exact absurd hr (hb x p)
 | bad => rfl
 | opn =>
  exfalso;unfold numP at hr;rw [if_neg (fun x => h4 x.1),if_neg (fun x => h2 x.1)] at hr;have hbo:∀ b,baseN D k b ≠ .opn:=fun b hb => by unfold baseN at hb;split at hb <;> cases hb
  have heo:∀ n K,expN D k n K ≠ .opn:=fun n K hb => by
   unfold expN at hb;split at hb
   ·split at hb <;> cases hb
   ·cases hb
  split at hr
  ·exact hbo _ hr
  split at hr
  ·exact hbo _ hr
  split at hr
  ·exact hbo _ hr
  unfold infN at hr;split at hr
  ·cases hr
  unfold tenN at hr;split at hr
  ·cases hr
  unfold fracN at hr;split at hr
  ·split at hr
   ·cases hr
   ·exact heo _ _ hr
  ·exact heo _ _ hr
theorem valP_no (D:Doc) (d k:Nat) (v:Tree) (p:Nat) (h:D.c k=0\/D.c k=13\/D.c k=44):valP D d k ≠ .good v p:=by
 cases d with
 | zero => rw [valP];intro h;cases h
 | succ d =>
  have ht:∀ l:List UInt8,hasB D k (116 :: l)=false:=fun l => by
   rcases qqg k D.n with hk | hk
   ·cases hh:hasB D k (116 :: l) with
    | false => rfl
    | true =>
     unfold hasB at hh;rw [List.length_cons,Doc.sub_succ] at hh;simp at hh;have:=congrArg UInt8.toNat hh.2.1;rw [Doc.toNat_ofNat] at this;have e:(116:UInt8).toNat=116:=rfl;omega
   ·exact hasB_past D k _ (by simp) hk
  have hfl:∀ l:List UInt8,hasB D k (102 :: l)=false:=fun l => by
   rcases qqg k D.n with hk | hk
   ·cases hh:hasB D k (102 :: l) with
    | false => rfl
    | true =>
     unfold hasB at hh;rw [List.length_cons,Doc.sub_succ] at hh;simp at hh;have:=congrArg UInt8.toNat hh.2.1;rw [Doc.toNat_ofNat] at this;have e:(102:UInt8).toNat=102:=rfl;omega
   ·exact hasB_past D k _ (by simp) hk
  rw [valP,if_neg (by unfold three;omega),if_neg (by omega),ht,if_neg (by simp),hfl,if_neg (by simp),if_neg (by omega),if_neg (by omega),numP_none h];intro h;cases h
theorem fok (D:Doc):∀ d,FOk D (valP D d):=by
 intro d
 induction d with
 | zero => exact ⟨fun k v p _ h => (by rw [valP] at h;cases h),fun k v p _ h => (by rw [valP] at h;cases h),fun k v p _ h => (by rw [valP] at h;cases h)⟩
 | succ d ih =>
  refine ⟨fun k v p hk h => valP_in D _ k v p hk h,fun k v p hk h => ?_,fun k v p h => valP_no D _ k v p h⟩;have hin:=valP_in D (d+1) k v p hk h;have hone:∀ K l ks,K ≠ 8->K ≠ 9->v=.mk K l [] ks->tSize v<=p - k:=fun K l ks h8 h9 e => by rw [e,tSize_mk,if_neg h8,if_neg h9];omega
  rw [valP] at h;split at h
  ·cases hl:lin D (D.c k) k with
   | good l k' => rw [hl] at h;injection h with h _;exact hone 0 l [] (by omega) (by omega) h.symm
   | bad => rw [hl] at h;cases h
   | opn => rw [hl] at h;cases h
  split at h
  ·cases hl:txt D (D.c k) k with
   | good l k' => rw [hl] at h;injection h with h _;exact hone 0 l [] (by omega) (by omega) h.symm
   | bad => rw [hl] at h;cases h
   | opn => rw [hl] at h;cases h
  split at h
  ·injection h with h _;exact hone 3 _ [] (by omega) (by omega) h.symm
  split at h
  ·injection h with h _;exact hone 3 _ [] (by omega) (by omega) h.symm
  split at h
  ·rename_i h91;have:=Doc.in_of (D:=D) (k:=k) (by omega);have h1:=lst_size ih _ (k+1) [] v p rfl (by omega) h;rw [lSize] at h1;omega
  split at h
  ·have h2:=wsEnd_ge D (k+1);unfold tabP at h;split at h
   ·injection h with h _;rw [<- h,tSize_mk,if_neg (by omega),if_pos rfl,bSize];omega
   ·split at h
    ·cases h
    ·have h1:=tab_size ih _ (wsEnd D (k+1)) [] v p rfl h;have h3:=tab_in D _ _ (wsEnd D (k+1)) [] v p rfl h;rw [bSize] at h1;omega
  ·cases hl:numP D k with
   | good x k' =>
    rw [hl] at h;have hk:=numP_kind D k k' x hl;injection h with h _;exact hone x.1 x.2 [] hk.1 hk.2 h.symm
   | bad => rw [hl] at h;cases h
   | opn => rw [hl] at h;cases h
def LfPost (D:Doc) (A:Option Addr) (C bp:Nat) (w:World) (nd0:Value) (left er:Value) (ns:List Nd) (nst k K p:Nat) (e:Ending) (w':World):Prop :=
 ∃ a n c nd,e=.returned (.tuple #[.int .i32 ((ns.length+1:Nat):Int),.slice a n c,.nilIface])/\VW D A C p a n c/\PN D A C bp w' left nd (ns++[⟨K,D.sub k (p - k),0,0⟩]) er nst/\Fr bp w nd0 w' nd
theorem PN.errH {D:Doc} {A:Option Addr} {C bp:Nat} {w w1:World} {left nd er v:Value} {ns:List Nd} {nst base:Nat} (h:PN D A C bp w left nd ns er nst) (k:Kp Nil w w1) (hE:Err w1 base v) (hb:bp<base) {w0:World} (f:KB bp w0 w) :
  ErrH D A C bp left er nst w0 (.returned (.tuple #[.int .i32 0,.slice none 0 0,v])) w1:=by
 obtain ⟨xs,h1,h2⟩:=h.nil k;exact ⟨_,_,_,_,rfl,Err.mono hE (by omega),h1,f.trans (KB.nil k)⟩
theorem pkw_y (D:Doc) (A a:Option Addr) (C bp k n c K:Nat) (l:List UInt8) (w:World) (left nd er:Value) (ns:List Nd) (nst:Nat) (hP:PN D A C bp w left nd ns er nst) (hN:ns.length<=134217728) (hv:VW D A C k a n c) (hk:k<D.n) (hl:0<l.length) (hl2:l.length<=1000) (hh:hasB D k l=true) :
  Calls Tryz.prog 98 #[.pointer (some ⟨bp,0,none⟩),.slice a n c,.string ⟨l.toArray⟩,.int .i64 (K:Nat)] w (LfPost D A C bp w nd left er ns nst k K (k+l.length)):=by
 have hs:=D.small;have hC1:=hP.doc.1;have hC2:=hP.doc.2.1;have hlt:=hP.ltB;have hcp:=qql hv.cap;have hcp':=qql hv.cap.symm;have HP:=qqh hP;have HV:=qqh hv;have HH:=qqh hh;clear hh;clear hP hv;go_enter Tryz.func98,Tryz.ntmps98;go_wp2_with fail
 refine (keyword_y D A a C k n c K l _ (by exact HP.out.doc) HV.out hk hl hl2 HH.out).mono ?_;rintro e w1 ⟨hk1,a1,n1,c1,rfl,hvw⟩;obtain ⟨q,hq⟩:∃ q,k+l.length=q:=⟨_,rfl⟩;rw [hq] at hvw
 first | rw [hq] | skip
 have HQ:=qqh hq;have hqn:q<=D.n:=by have:=hvw.len;omega
 have hqk:k<=q:=by omega
 have hP1:=qqh (HP.out.nil hk1);have HVW:=qqh hvw;have HF1:=qqh (Fr.nil (bp:=bp) (nd:=nd) hk1);have hrd:Hid (RdS w1 A bp nd (.slice a (q - k) c) (D.sub k (q - k))):=RdS.of (base:=w.heap.size) (Rd.doc HV.out hP1.out.doc (q - k) c _ (by have:=HV.out.len;omega)) hlt (fun g hg => (HP.out.rowlt g hg).2);clear hk1 hvw hq;go_wp2_with fail
 refine (range_c D A a C k (q - k) c bp _ (by exact hP1.out.ltB) (by exact hP1.out.data) hC2 (by omega) (by omega) (by omega)).mono ?_;rintro e w2 ⟨⟨x,y,rfl⟩,hk2⟩;have hP2:=qqh (hP1.out.nil hk2);have hRD2:=qqh (RdS.step hrd.out hk2 (fun _ _ _ _ x => x) (fun _ _ x => x) (Fresh.refl _ _));have HF2:=qqh (HF1.out.trans (Fr.nil hk2));clear hk2;go_wp2_with fail
 refine (push_n D A C bp _ left nd er ns nst (by exact hP2.out) hN K x y _ _ (D.sub k (q - k)) (by exact hRD2.out)).mono ?_;rintro e w3 ⟨nd3,rfl,hP3,hF3⟩;have HP3:=qqh hP3;have HF3:=qqh (HF2.out.trans hF3);clear hP3 hF3;go_wp2_with fail
 go_ret3
 obtain rfl:=HQ.out;exact ⟨_,_,_,_,rfl,HVW.out,HP3.out,HF3.out⟩
theorem pkw_n (D:Doc) (A a:Option Addr) (C bp k n c:Nat) (K:Nat) (l:List UInt8) (w:World) (left nd er:Value) (ns:List Nd) (nst:Nat) (hP:PN D A C bp w left nd ns er nst) (hv:VW D A C k a n c) (hk:k<D.n) (hl:0<l.length) (hl2:l.length<=1000) (hh:hasB D k l=false) :
  Calls Tryz.prog 98 #[.pointer (some ⟨bp,0,none⟩),.slice a n c,.string ⟨l.toArray⟩,.int .i64 (K:Nat)] w (ErrH D A C bp left er nst w):=by
 have hlt:=hP.ltB;have HP:=qqh hP;have HV:=qqh hv;clear hP hv;go_enter Tryz.func98,Tryz.ntmps98;go_wp2_with fail
 refine (keyword_n D A a C k n c K l _ (by exact HP.out.doc) HV.out hk hl hl2 hh).mono ?_;rintro e w1 ⟨⟨v,rfl,hE⟩,hk1⟩;obtain ⟨b,rfl⟩:=Err.ptr hE;have HE:=qqh hE;clear hE;go_wp2_with fail
 go_ret3
 exact PN.errH HP.out hk1 HE.out hlt (Kp.refl _ _)
theorem pnum_y (D:Doc) (A a:Option Addr) (C bp k n c K:Nat) (p:Nat) (w:World) (left nd er:Value) (ns:List Nd) (nst:Nat) (hP:PN D A C bp w left nd ns er nst) (hN:ns.length<=134217728) (hv:VW D A C k a n c) (hkp:k<=p) (hsc:Calls Tryz.prog 110 #[.slice a n c] w (Sc5 D A C k a c w K p)) :
  Calls Tryz.prog 101 #[.pointer (some ⟨bp,0,none⟩),.slice a n c] w (LfPost D A C bp w nd left er ns nst k K (p)):=by
 have hs:=D.small;have hC1:=hP.doc.1;have hC2:=hP.doc.2.1;have hlt:=hP.ltB;have hcp:=qql hv.cap;have hcp':=qql hv.cap.symm;have HP:=qqh hP;have HV:=qqh hv;have HSC:=qqh hsc;clear hsc;clear hP hv;go_enter Tryz.func101,Tryz.ntmps101;go_wp2_with fail
 refine (HSC.out).mono ?_;rintro e w1 ⟨hk1,a1,n1,c1,rfl,hvw⟩;obtain ⟨q,hq⟩:∃ q,p=q:=⟨_,rfl⟩;rw [hq] at hvw
 first | rw [hq] | skip
 have HQ:=qqh hq;have hqn:q<=D.n:=by have:=hvw.len;omega
 have hqk:k<=q:=by omega
 have hP1:=qqh (HP.out.nil hk1);have HVW:=qqh hvw;have HF1:=qqh (Fr.nil (bp:=bp) (nd:=nd) hk1);have hrd:Hid (RdS w1 A bp nd (.slice a (q - k) c) (D.sub k (q - k))):=RdS.of (base:=w.heap.size) (Rd.doc HV.out hP1.out.doc (q - k) c _ (by have:=HV.out.len;omega)) hlt (fun g hg => (HP.out.rowlt g hg).2);clear hk1 hvw hq;go_wp2_with fail
 refine (range_c D A a C k (q - k) c bp _ (by exact hP1.out.ltB) (by exact hP1.out.data) hC2 (by omega) (by omega) (by omega)).mono ?_;rintro e w2 ⟨⟨x,y,rfl⟩,hk2⟩;have hP2:=qqh (hP1.out.nil hk2);have hRD2:=qqh (RdS.step hrd.out hk2 (fun _ _ _ _ x => x) (fun _ _ x => x) (Fresh.refl _ _));have HF2:=qqh (HF1.out.trans (Fr.nil hk2));clear hk2;go_wp2_with fail
 refine (push_n D A C bp _ left nd er ns nst (by exact hP2.out) hN K x y _ _ (D.sub k (q - k)) (by exact hRD2.out)).mono ?_;rintro e w3 ⟨nd3,rfl,hP3,hF3⟩;have HP3:=qqh hP3;have HF3:=qqh (HF2.out.trans hF3);clear hP3 hF3;go_wp2_with fail
 go_ret3
 obtain rfl:=HQ.out;exact ⟨_,_,_,_,rfl,HVW.out,HP3.out,HF3.out⟩
theorem pnum_n (D:Doc) (A a:Option Addr) (C bp k n c:Nat)  (w:World) (left nd er:Value) (ns:List Nd) (nst:Nat) (hP:PN D A C bp w left nd ns er nst) (hv:VW D A C k a n c) (hsc:Calls Tryz.prog 110 #[.slice a n c] w (Err5 w)) :
  Calls Tryz.prog 101 #[.pointer (some ⟨bp,0,none⟩),.slice a n c] w (ErrH D A C bp left er nst w):=by
 have hlt:=hP.ltB;have HP:=qqh hP;have HV:=qqh hv;clear hP hv;go_enter Tryz.func101,Tryz.ntmps101;go_wp2_with fail
 refine (hsc).mono ?_;rintro e w1 ⟨⟨v,rfl,hE⟩,hk1⟩;obtain ⟨b,rfl⟩:=Err.ptr hE;have HE:=qqh hE;clear hE;go_wp2_with fail
 go_ret3
 exact PN.errH HP.out hk1 HE.out hlt (Kp.refl _ _)
theorem pdt_y (D:Doc) (A a:Option Addr) (C bp k n c K:Nat) (p:Nat) (w:World) (left nd er:Value) (ns:List Nd) (nst:Nat) (hP:PN D A C bp w left nd ns er nst) (hN:ns.length<=134217728) (hv:VW D A C k a n c) (hkp:k<=p) (hsc:Calls Tryz.prog 112 #[.slice a n c] w (Sc5 D A C k a c w K p)) :
  Calls Tryz.prog 103 #[.pointer (some ⟨bp,0,none⟩),.slice a n c] w (LfPost D A C bp w nd left er ns nst k K (p)):=by
 have hs:=D.small;have hC1:=hP.doc.1;have hC2:=hP.doc.2.1;have hlt:=hP.ltB;have hcp:=qql hv.cap;have hcp':=qql hv.cap.symm;have HP:=qqh hP;have HV:=qqh hv;have HSC:=qqh hsc;clear hsc;clear hP hv;go_enter Tryz.func103,Tryz.ntmps103;go_wp2_with fail
 refine (HSC.out).mono ?_;rintro e w1 ⟨hk1,a1,n1,c1,rfl,hvw⟩;obtain ⟨q,hq⟩:∃ q,p=q:=⟨_,rfl⟩;rw [hq] at hvw
 first | rw [hq] | skip
 have HQ:=qqh hq;have hqn:q<=D.n:=by have:=hvw.len;omega
 have hqk:k<=q:=by omega
 have hP1:=qqh (HP.out.nil hk1);have HVW:=qqh hvw;have HF1:=qqh (Fr.nil (bp:=bp) (nd:=nd) hk1);have hrd:Hid (RdS w1 A bp nd (.slice a (q - k) c) (D.sub k (q - k))):=RdS.of (base:=w.heap.size) (Rd.doc HV.out hP1.out.doc (q - k) c _ (by have:=HV.out.len;omega)) hlt (fun g hg => (HP.out.rowlt g hg).2);clear hk1 hvw hq;go_wp2_with fail
 refine (range_c D A a C k (q - k) c bp _ (by exact hP1.out.ltB) (by exact hP1.out.data) hC2 (by omega) (by omega) (by omega)).mono ?_;rintro e w2 ⟨⟨x,y,rfl⟩,hk2⟩;have hP2:=qqh (hP1.out.nil hk2);have hRD2:=qqh (RdS.step hrd.out hk2 (fun _ _ _ _ x => x) (fun _ _ x => x) (Fresh.refl _ _));have HF2:=qqh (HF1.out.trans (Fr.nil hk2));clear hk2;go_wp2_with fail
 refine (push_n D A C bp _ left nd er ns nst (by exact hP2.out) hN K x y _ _ (D.sub k (q - k)) (by exact hRD2.out)).mono ?_;rintro e w3 ⟨nd3,rfl,hP3,hF3⟩;have HP3:=qqh hP3;have HF3:=qqh (HF2.out.trans hF3);clear hP3 hF3;go_wp2_with fail
 go_ret3
 obtain rfl:=HQ.out;exact ⟨_,_,_,_,rfl,HVW.out,HP3.out,HF3.out⟩
def NoU8 (xs:List Value):Prop:=∀ v ∈ xs,∀ z,v ≠ .int .u8 z
theorem RdS.put {w:World} {A:Option Addr} {bp b i:Nat} {nd v:Value} {l:List UInt8} {xs:List Value} {t:TypeId} (h:RdS w A bp nd v l) (hB:Blk w b xs t) (hx:NoU8 xs) (u:Value):RdS (w.setCell ⟨b,i,none⟩ u) A bp nd v l:=by
 obtain ⟨a,c,e,hl⟩:=h;refine ⟨a,c,e,fun hne => ?_⟩;obtain ⟨b',o,e2,h1,h2,h3⟩:=hl hne;have hb:b' ≠ b:=by
  intro e;subst e;have hlen:0<l.length:=List.length_pos_iff.2 hne;have h4:=h3 0 hlen;unfold Blk at hB;have h5:xs[o+0]?=some (.int .u8 (l[0].toNat:Nat)):=by
   have h6:=h4;simp [World.cell?,hB] at h6;simpa using h6
  exact hx _ (List.mem_of_getElem? h5) _ rfl
 exact ⟨b',o,e2,by simpa using h1,h2,fun j hj => (World.cell?_of_block (a:=⟨b',o+j,none⟩) (Below.heap_setCell _ _ _ _ hb)).trans (h3 j hj)⟩
theorem NRep.put {w:World} {A:Option Addr} {bp b i:Nat} {nd:Value} {ys:List Value} {t:TypeId} (hB:Blk w b ys t) (hx:NoU8 ys) (u:Value):∀ (ns:List Nd) (xs:List Value),NRep w A bp nd ns xs->NRep (w.setCell ⟨b,i,none⟩ u) A bp nd ns xs
 | [],_,h => h
 | _ :: ns,_,h => by
  obtain ⟨o,l,d,rest,hx',h1,h2⟩:=h;exact ⟨o,l,d,rest,hx',h1.put hB hx u,NRep.put hB hx u ns rest h2⟩
theorem PN.put {D:Doc} {A:Option Addr} {C bp b i:Nat} {w:World} {left nd er:Value} {ns:List Nd} {nst:Nat} {ys:List Value} {t:TypeId} (h:PN D A C bp w left nd ns er nst) (hB:Blk w b ys t) (hx:NoU8 ys)
  (h1:b ≠ bp) (h2:nd.ownBlock ≠ some b) (h3:∀ a,A=some a->a.block ≠ b) (u:Value):PN D A C bp (w.setCell ⟨b,i,none⟩ u) left nd ns er nst:=by
 obtain ⟨xs,h4,h5⟩:=h;exact ⟨xs,h4.kp (S:=Only b) ((Kp.refl _ _).putOnly u) (fun e => h1 e.symm) (fun a ha e => h3 a ha e) (fun g hg e => h2 (by have e:g=b:=e;rw [hg,e])),NRep.put hB hx u ns xs h5⟩
theorem PN.apartA {D:Doc} {A:Option Addr} {C bp:Nat} {w:World} {left nd er:Value} {ns:List Nd} {nst:Nat} (h:PN D A C bp w left nd ns er nst):∀ a,A=some a->a.block ≠ bp/\some a.block ≠ nd.ownBlock/\a.block<w.heap.size:=h.choose_spec.1.ltA
theorem noU8_i32 (x:Int):NoU8 [.int .i32 x]:=by intro v hv z;simp at hv;subst hv;intro e;injection e with e;cases e
def KA (b8:Nat) (nd:Value) (w w':World):Prop:=Kp (fun b => b=b8\/some b=nd.ownBlock) w w'
theorem app108_c (D:Doc) (A:Option Addr) (C bp b2 b7 b8 arr lc h:Nat) (w:World) (left nd er:Value) (ns:List Nd) (nst:Nat) (hP:PN D A C bp w left nd ns er nst) (hN:ns.length<=134217728)
  (h2:Blk w b2 [.pointer (some ⟨bp,0,none⟩)] 74) (h7:Blk w b7 [.int .i32 (arr:Nat)] 21) (h8:Blk w b8 [.int .i32 (lc:Nat)] 21)
  (a1:b8 ≠ bp) (a2:nd.ownBlock ≠ some b8) (a3:∀ a,A=some a->a.block ≠ b8) (ha1:1<=arr) (ha2:arr<=ns.length) (hl:lc<=ns.length) (hh:h<=134217728) :
  Calls Tryz.prog 108 #[.int .i32 (h:Nat),.pointer (some ⟨b8,0,none⟩),.pointer (some ⟨b2,0,none⟩),.pointer (some ⟨b7,0,none⟩)] w fun e w' => e=.returned (.tuple #[])/\PN D A C bp w' left nd (appNds ns arr lc h) er nst/\Blk w' b8 [.int .i32 (h:Nat)] 21/\KA b8 nd w w':=by
 have c2:=h2.cell 0 rfl;have c7:=h7.cell 0 rfl;have c8:=h8.cell 0 rfl;have f8:=h8.free 0;have hlt8:=h8.lt;have HP:=qqh hP;have H8:=qqh h8;have A3:=qqh a3;clear hP h2 h7 h8 a3;go_enter Tryz.func108,Tryz.ntmps108;rcases Nat.eq_zero_or_pos lc with h0 | h0
 ·have e0:((lc:Int) == 0)=true:=by rw [beq_iff_eq];omega
  have H0:=qqh h0;clear h0;go_wp2_with fail
  refine (at_c D A C bp _ left nd er ns nst (by exact HP.out) arr ha1 ha2 (by omega)).mono ?_;rintro e w1 ⟨⟨g,hg,rfl⟩,hw⟩;obtain rfl:=hw.symm;have HG:=qqh hg;clear hg;obtain ⟨⟨v,hcv⟩,hcf⟩:=PN.cell HP.out HG.out (7 * (arr - 1)+6) (by omega);have hgb:g ≠ b8:=fun e => a2 (by rw [HG.out,e])
  have c8':(w.setCell ⟨g,7 * (arr - 1)+6,none⟩ (.int .i32 (h:Nat))).cell? ⟨b8,0,none⟩=some (.int .i32 (lc:Nat)):=by rw [World.cell?_of_block (a:=⟨b8,0,none⟩) (Below.heap_setCell _ _ _ _ (by exact fun e => hgb e.symm))];exact c8
  go_wp2_with fail
  go_end0
  have h1:=PN.setChild HP.out HG.out (arr - 1) h (by omega);have hb:=H8.out.other (a:=⟨g,7 * (arr - 1)+6,none⟩) (fun e => hgb e.symm) (.int .i32 (h:Nat));refine ⟨rfl,?_,hb.putE 0 _ rfl,?_⟩
  ·unfold appNds;rw [if_pos H0.out];exact h1.put hb (noU8_i32 _) a1 a2 A3.out _
  ·exact Kp.setCell (Kp.setCell (Kp.refl _ _) (.inl (.inr HG.out.symm)) _) (.inl (.inl rfl)) _
 ·have e0:((lc:Int) == 0)=false:=qqn (by omega);go_wp2_with fail
  refine (at_c D A C bp _ left nd er ns nst (by exact HP.out) lc h0 hl (by omega)).mono ?_;rintro e w1 ⟨⟨g,hg,rfl⟩,hw⟩;obtain rfl:=hw.symm;have HG:=qqh hg;clear hg;obtain ⟨⟨v,hcv⟩,hcf⟩:=PN.cell HP.out HG.out (7 * (lc - 1)+5) (by omega);have hgb:g ≠ b8:=fun e => a2 (by rw [HG.out,e])
  go_wp2_with fail
  go_end0
  have h1:=PN.setNext HP.out HG.out (lc - 1) h (by omega);have hb:=H8.out.other (a:=⟨g,7 * (lc - 1)+5,none⟩) (fun e => hgb e.symm) (.int .i32 (h:Nat));refine ⟨rfl,?_,hb.putE 0 _ rfl,?_⟩
  ·unfold appNds;rw [if_neg (by omega)];exact h1.put hb (noU8_i32 _) a1 a2 A3.out _
  ·exact Kp.setCell (Kp.setCell (Kp.refl _ _) (.inl (.inr HG.out.symm)) _) (.inl (.inl rfl)) _
theorem app109_c (D:Doc) (A:Option Addr) (C bp b2 b7 b8 arr lc h:Nat) (w:World) (left nd er:Value) (ns:List Nd) (nst:Nat) (hP:PN D A C bp w left nd ns er nst) (hN:ns.length<=134217728)
  (h2:Blk w b2 [.pointer (some ⟨bp,0,none⟩)] 74) (h7:Blk w b7 [.int .i32 (arr:Nat)] 21) (h8:Blk w b8 [.int .i32 (lc:Nat)] 21)
  (a1:b8 ≠ bp) (a2:nd.ownBlock ≠ some b8) (a3:∀ a,A=some a->a.block ≠ b8) (ha1:1<=arr) (ha2:arr<=ns.length) (hl:lc<=ns.length) (hh:h<=134217728) :
  Calls Tryz.prog 109 #[.int .i32 (h:Nat),.pointer (some ⟨b8,0,none⟩),.pointer (some ⟨b2,0,none⟩),.pointer (some ⟨b7,0,none⟩)] w fun e w' => e=.returned (.tuple #[])/\PN D A C bp w' left nd (appNds ns arr lc h) er nst/\Blk w' b8 [.int .i32 (h:Nat)] 21/\KA b8 nd w w':=by
 have c2:=h2.cell 0 rfl;have c7:=h7.cell 0 rfl;have c8:=h8.cell 0 rfl;have f8:=h8.free 0;have hlt8:=h8.lt;have HP:=qqh hP;have H8:=qqh h8;have A3:=qqh a3;clear hP h2 h7 h8 a3;go_enter Tryz.func109,Tryz.ntmps109;rcases Nat.eq_zero_or_pos lc with h0 | h0
 ·have e0:((lc:Int) == 0)=true:=by rw [beq_iff_eq];omega
  have H0:=qqh h0;clear h0;go_wp2_with fail
  refine (at_c D A C bp _ left nd er ns nst (by exact HP.out) arr ha1 ha2 (by omega)).mono ?_;rintro e w1 ⟨⟨g,hg,rfl⟩,hw⟩;obtain rfl:=hw.symm;have HG:=qqh hg;clear hg;obtain ⟨⟨v,hcv⟩,hcf⟩:=PN.cell HP.out HG.out (7 * (arr - 1)+6) (by omega);have hgb:g ≠ b8:=fun e => a2 (by rw [HG.out,e])
  have c8':(w.setCell ⟨g,7 * (arr - 1)+6,none⟩ (.int .i32 (h:Nat))).cell? ⟨b8,0,none⟩=some (.int .i32 (lc:Nat)):=by rw [World.cell?_of_block (a:=⟨b8,0,none⟩) (Below.heap_setCell _ _ _ _ (by exact fun e => hgb e.symm))];exact c8
  go_wp2_with fail
  go_end0
  have h1:=PN.setChild HP.out HG.out (arr - 1) h (by omega);have hb:=H8.out.other (a:=⟨g,7 * (arr - 1)+6,none⟩) (fun e => hgb e.symm) (.int .i32 (h:Nat));refine ⟨rfl,?_,hb.putE 0 _ rfl,?_⟩
  ·unfold appNds;rw [if_pos H0.out];exact h1.put hb (noU8_i32 _) a1 a2 A3.out _
  ·exact Kp.setCell (Kp.setCell (Kp.refl _ _) (.inl (.inr HG.out.symm)) _) (.inl (.inl rfl)) _
 ·have e0:((lc:Int) == 0)=false:=qqn (by omega);go_wp2_with fail
  refine (at_c D A C bp _ left nd er ns nst (by exact HP.out) lc h0 hl (by omega)).mono ?_;rintro e w1 ⟨⟨g,hg,rfl⟩,hw⟩;obtain rfl:=hw.symm;have HG:=qqh hg;clear hg;obtain ⟨⟨v,hcv⟩,hcf⟩:=PN.cell HP.out HG.out (7 * (lc - 1)+5) (by omega);have hgb:g ≠ b8:=fun e => a2 (by rw [HG.out,e])
  go_wp2_with fail
  go_end0
  have h1:=PN.setNext HP.out HG.out (lc - 1) h (by omega);have hb:=H8.out.other (a:=⟨g,7 * (lc - 1)+5,none⟩) (fun e => hgb e.symm) (.int .i32 (h:Nat));refine ⟨rfl,?_,hb.putE 0 _ rfl,?_⟩
  ·unfold appNds;rw [if_neg (by omega)];exact h1.put hb (noU8_i32 _) a1 a2 A3.out _
  ·exact Kp.setCell (Kp.setCell (Kp.refl _ _) (.inl (.inr HG.out.symm)) _) (.inl (.inl rfl)) _
theorem NRep.at_ {w:World} {A:Option Addr} {bp:Nat} {nd:Value}:∀ (ns:List Nd) (xs:List Value) (i:Nat) (n:Nd),NRep w A bp nd ns xs->ns[i]?=some n ->
  ∃ d,xs[7 * i]?=some (.int .i64 (n.kind:Nat))/\xs[7 * i+3]?=some d/\xs[7 * i+4]?=some (.pointer (some ⟨bp,0,none⟩))/\xs[7 * i+5]?=some (.int .i32 (n.next:Nat))/\xs[7 * i+6]?=some (.int .i32 (n.child:Nat))/\RdS w A bp nd d n.txt
 | [],_,_,_,_,h => by simp at h
 | m :: ns,_,0,n,h,hn => by
  obtain ⟨o,l,d,rest,rfl,h1,h2⟩:=h;have hn:m=n:=by simpa using hn
  subst hn;exact ⟨d,rfl,rfl,rfl,rfl,rfl,h1⟩
 | m :: ns,_,i+1,n,h,hn => by
  obtain ⟨o,l,d,rest,rfl,h1,h2⟩:=h;obtain ⟨d',h3,h4,h5,h6,h7,h8⟩:=NRep.at_ ns rest i n h2 (by simpa using hn);refine ⟨d',?_,?_,?_,?_,?_,h8⟩
  ·rw [show 7 * (i+1)=7 * i+7 by omega];simpa using h3
  ·rw [show 7 * (i+1)+3=(7 * i+3)+7 by omega];simpa using h4
  ·rw [show 7 * (i+1)+4=(7 * i+4)+7 by omega];simpa using h5
  ·rw [show 7 * (i+1)+5=(7 * i+5)+7 by omega];simpa using h6
  ·rw [show 7 * (i+1)+6=(7 * i+6)+7 by omega];simpa using h7
theorem PN.node {D:Doc} {A:Option Addr} {C bp:Nat} {w:World} {left nd er:Value} {ns:List Nd} {nst g i:Nat} {n:Nd} (h:PN D A C bp w left nd ns er nst) (hg:nd.ownBlock=some g) (hn:ns[i]?=some n) :
  ∃ d c,w.cell? ⟨g,7 * i,none⟩=some (.int .i64 (n.kind:Nat))/\w.cell? ⟨g,7 * i+3,none⟩=some d/\w.cell? ⟨g,7 * i+4,none⟩=some (.pointer (some ⟨bp,0,none⟩))/\w.cell? ⟨g,7 * i+5,none⟩=some (.int .i32 (n.next:Nat))/\w.cell? ⟨g,7 * i+6,none⟩=some (.int .i32 (n.child:Nat))/\RdS w A bp nd d n.txt/\w.cell? ⟨bp,3,none⟩=some (.slice (some ⟨g,0,none⟩) ns.length c)/\nd=.slice (some ⟨g,0,none⟩) ns.length c:=by
 obtain ⟨xs,h1,h2⟩:=h;obtain ⟨a,c,rfl,_,_⟩:=h1.form;rcases h1.own.2 with ⟨h3,_⟩ | ⟨g',cap,cur,h3,_⟩
 ·rw [h3] at hg;cases hg
 ·injection h3 with h3 _ _;subst h3;have:g'=g:=by injection hg
  subst this;obtain ⟨d,h4,h5,h6,h7,h8,h9⟩:=NRep.at_ ns xs i n h2 hn;have hi:i<ns.length:=(List.getElem?_eq_some_iff.1 hn).1;have hc:∀ j,j<ns.length * 7->w.cell? ⟨g',j,none⟩=xs[j]?:=fun j hj => h1.own.cellAt j hj
  exact ⟨d,c,by rw [hc _ (by omega)];exact h4,by rw [hc _ (by omega)];exact h5,by rw [hc _ (by omega)];exact h6,by rw [hc _ (by omega)];exact h7,by rw [hc _ (by omega)];exact h8,h9,h1.blk.cell 3 rfl,rfl⟩
def nodePtr (g:Nat):Nat->Value | 0 => .pointer none | h+1 => .pointer (some ⟨g,7 * h,none⟩)
theorem valid_c (D:Doc) (A:Option Addr) (C bp:Nat) (w:World) (left nd er:Value) (ns:List Nd) (nst g h:Nat) (hP:PN D A C bp w left nd ns er nst) (hg:nd.ownBlock=some g) (hh:h<=ns.length) (hk:∀ n ∈ ns,n.kind ≠ 0) :
  Calls Tryz.prog 84 #[nodePtr g h] w fun e w' => e=.returned (.bool (decide (h ≠ 0)))/\w'=w:=by
 cases h with
 | zero =>
  go_enter Tryz.func84,Tryz.ntmps84;unfold nodePtr;go_wp2_with fail
  go_ret;exact ⟨rfl,rfl⟩
 | succ i =>
  have hi:i<ns.length:=hh;obtain ⟨d,c,h0,h3,h4,h5,h6,h7,h8,h9⟩:=hP.node hg (List.getElem?_eq_getElem hi);have hkn:=hk _ (List.getElem_mem hi);obtain ⟨K,hK⟩:∃ K,ns[i].kind=K:=⟨_,rfl⟩;rw [hK] at h0 hkn;have e0:((K:Int) != 0)=true:=by rw [bne_iff_ne];omega
  clear h3 h4 h5 h6 h7 h8 h9 hK hkn hP hk hg;go_enter Tryz.func84,Tryz.ntmps84;unfold nodePtr;go_wp2_with fail
  go_ret;exact ⟨rfl,rfl⟩
theorem child_c (D:Doc) (A:Option Addr) (C bp:Nat) (w:World) (left nd er:Value) (ns:List Nd) (nst g i:Nat) (n:Nd) (hP:PN D A C bp w left nd ns er nst) (hg:nd.ownBlock=some g) (hn:ns[i]?=some n) (hc:n.child<=ns.length) (hN:ns.length<=268435456) :
  Calls Tryz.prog 66 #[.pointer (some ⟨g,7 * i,none⟩)] w fun e w' => e=.returned (nodePtr g n.child)/\∃ m,w'=w.drewN m:=by
 obtain ⟨d,c,h0,h3,h4,h5,h6,h7,h8,h9⟩:=hP.node hg hn;obtain ⟨x,hx⟩:∃ x,n.child=x:=⟨_,rfl⟩;rw [hx] at h6 hc ⊢;clear h0 h3 h5 h7 h9 hx hP hg hn;cases x with
 | zero =>
  go_enter Tryz.func66,Tryz.ntmps66;go_wp2_with fail
  go_ret;exact ⟨rfl,0,rfl⟩
 | succ j =>
  have e0:(((j+1:Nat):Int) == 0)=false:=qqn (by omega);have hwr:IntKind.i32.wrap (((j+1:Nat):Int) - 1)=(j:Int):=(IntWalk.i32_in _ (by omega)).trans (by omega);go_enter Tryz.func66,Tryz.ntmps66;go_wp2_with fail
  go_quiet (fail)
  go_wp2_with fail
  go_ret;refine ⟨?_,_,rfl⟩;show Ending.returned (Value.pointer (some _))=Ending.returned (Value.pointer (some ⟨g,7 * j,none⟩));refine congrArg (fun o => Ending.returned (Value.pointer (some ⟨g,o,none⟩))) ?_;omega
theorem next_c (D:Doc) (A:Option Addr) (C bp:Nat) (w:World) (left nd er:Value) (ns:List Nd) (nst g i:Nat) (n:Nd) (hP:PN D A C bp w left nd ns er nst) (hg:nd.ownBlock=some g) (hn:ns[i]?=some n) (hc:n.next<=ns.length) (hN:ns.length<=268435456) :
  Calls Tryz.prog 85 #[.pointer (some ⟨g,7 * i,none⟩)] w fun e w' => e=.returned (nodePtr g n.next)/\∃ m,w'=w.drewN m:=by
 obtain ⟨d,c,h0,h3,h4,h5,h6,h7,h8,h9⟩:=hP.node hg hn;obtain ⟨x,hx⟩:∃ x,n.next=x:=⟨_,rfl⟩;rw [hx] at h5 hc ⊢;clear h0 h3 h6 h7 h9 hx hP hg hn;cases x with
 | zero =>
  go_enter Tryz.func85,Tryz.ntmps85;go_wp2_with fail
  go_ret;exact ⟨rfl,0,rfl⟩
 | succ j =>
  have e0:(((j+1:Nat):Int) == 0)=false:=qqn (by omega);have hwr:IntKind.i32.wrap (((j+1:Nat):Int) - 1)=(j:Int):=(IntWalk.i32_in _ (by omega)).trans (by omega);go_enter Tryz.func85,Tryz.ntmps85;go_wp2_with fail
  go_quiet (fail)
  go_wp2_with fail
  go_ret;refine ⟨?_,_,rfl⟩;show Ending.returned (Value.pointer (some _))=Ending.returned (Value.pointer (some ⟨g,7 * j,none⟩));refine congrArg (fun o => Ending.returned (Value.pointer (some ⟨g,o,none⟩))) ?_;omega
theorem value33_c (D:Doc) (A:Option Addr) (C bp:Nat) (w:World) (left nd er:Value) (ns:List Nd) (nst g i:Nat) (n:Nd) (hP:PN D A C bp w left nd ns er nst) (hg:nd.ownBlock=some g) (hn:ns[i]?=some n) (hc:n.child<=ns.length) (hN:ns.length<=268435456) :
  Calls Tryz.prog 33 #[.pointer (some ⟨g,7 * i,none⟩)] w fun e w' => e=.returned (nodePtr g n.child)/\∃ m,w'=w.drewN m:=by
 have HP:=qqh hP;have HG:=qqh hg;have HN:=qqh hn;clear hP hg hn;go_enter Tryz.func33,Tryz.ntmps33;go_wp2_with fail
 refine (child_c D A C bp _ left nd er ns nst g i n (by exact HP.out) HG.out HN.out hc hN).mono ?_;rintro e w1 ⟨rfl,m,rfl⟩;go_wp2_with fail
 go_ret;exact ⟨rfl,m,rfl⟩
theorem kind_c (K:Nat) (t:Int) (h:(K,t) ∈ [(8,(0:Int)),(11,1),(10,2),(9,3),(15,4),(14,5),(12,6),(13,7),(6,8),(7,9)]) (w:World) :
  Calls Tryz.prog 64 #[.int .i64 (K:Nat)] w fun e w' => e=.returned (.int .i64 t)/\w'=w:=by
 simp only [List.mem_cons,Prod.mk.injEq,List.not_mem_nil,or_false] at h;rcases h with ⟨rfl,rfl⟩ | ⟨rfl,rfl⟩ | ⟨rfl,rfl⟩ | ⟨rfl,rfl⟩ | ⟨rfl,rfl⟩ | ⟨rfl,rfl⟩ | ⟨rfl,rfl⟩ | ⟨rfl,rfl⟩ | ⟨rfl,rfl⟩ | ⟨rfl,rfl⟩
 all_goals
  go_enter Tryz.func64,Tryz.ntmps64;go_wp2_with fail
  go_ret;exact ⟨rfl,rfl⟩
end Go.Proofs.YtpgmddjgcgpoeaaGreat
