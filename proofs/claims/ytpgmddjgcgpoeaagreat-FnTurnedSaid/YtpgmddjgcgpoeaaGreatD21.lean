/-
  A part of the proof.
-/
import Derived.Test.YtpgmddjgcgpoeaaGreatD19
import Derived.Deep.DeepCutAuto
import Derived.Deep.RegionLaw
import Derived.Test.YtpgmddjgcgpoeaaGreatD04
set_option linter.unusedVariables false
set_option linter.unusedSimpArgs false
set_option maxRecDepth 100000
set_option maxHeartbeats 8000000
namespace Go.Proofs.YtpgmddjgcgpoeaaGreat
open Go.RowKit
theorem LW.start {D:Doc} {bp:Nat} {A:Option Addr} {C:Nat} {w:World} {at_ st:Nat} (hp:PS D bp A C w at_ st) (hA:∀ a,A=some a->a.block<w.heap.size) (k:Int) (k':Nat) (e:k=(k':Int)) (kind:Nat) :
  LW D bp A C w kind (.slice none 0 0) 0 [] (((w.setCell ⟨bp,1,none⟩ (.int .i64 k)).alloc (.cells #[.int .i64 0,.string ⟨#[]⟩,.slice none 0 0,.slice none 0 0] 43)).alloc (.cells #[.int .i64 kind,.string ⟨#[]⟩,.slice none 0 0,.slice none 0 0] 43)) k' st:=by
 have hp1:=hp.setAt k k' e;have hs:(w.setCell ⟨bp,1,none⟩ (.int .i64 k)).heap.size=w.heap.size:=by simp
 refine ⟨(hp1.alloc _).alloc _,(((Kp.refl _ _).putOnly _).alloc _).alloc _,?_,?_,World.ownsRow_nil _ _ _ _,hp.blk.lt,hA⟩
 ·have h:=Blk.new (w.setCell ⟨bp,1,none⟩ (.int .i64 k)) [.int .i64 0,.string ⟨#[]⟩,.slice none 0 0,.slice none 0 0] 43;rw [hs] at h;exact h.alloc _
 ·have h:=Blk.new ((w.setCell ⟨bp,1,none⟩ (.int .i64 k)).alloc (.cells #[.int .i64 0,.string ⟨#[]⟩,.slice none 0 0,.slice none 0 0] 43)) [.int .i64 kind,.string ⟨#[]⟩,.slice none 0 0,.slice none 0 0] 43;have hs2:((w.setCell ⟨bp,1,none⟩ (.int .i64 k)).alloc (.cells #[.int .i64 0,.string ⟨#[]⟩,.slice none 0 0,.slice none 0 0] 43)).heap.size=w.heap.size+1:=by simp
  rw [hs2] at h;exact h
def EndR {α:Type} (r:R α) (st:Nat):Prop:=(st=1/\r=.bad)\/(st=2/\r=.opn)
theorem EndR.st {α:Type} {r:R α} {st:Nat} (h:EndR r st):r.st 0=st:=by rcases h with ⟨rfl,rfl⟩ | ⟨rfl,rfl⟩ <;> rfl
theorem EndR.pos {α:Type} {r:R α} {st:Nat} (h:EndR r st) (D:Doc):r.pos D=D.n:=by rcases h with ⟨rfl,rfl⟩ | ⟨rfl,rfl⟩ <;> rfl
theorem EndR.node {r:R Tree} {st:Nat} (h:EndR r st) {w:World} {base:Nat} {cs:List Value} (hc:IsNode cs):ValOk r w base cs:=by rcases h with ⟨rfl,rfl⟩ | ⟨rfl,rfl⟩ <;> exact hc
def LInv (D:Doc) (run:Nat->List Tree->R Tree) (r:R Tree) (w0 wr:World) (v:Value) (n:Nat) (xs:List Value) (k st:Nat):Prop :=
 (st=0/\∃ ts,ts.length=n/\r=run k ts/\RepL wr (w0.heap.size+2) (fun b => v.ownBlock ≠ some b) ts xs)\/(st ≠ 0/\k=D.n/\EndR r st)
theorem RepL.same {w w':World} {base:Nat} {S:Nat->Prop} {ts:List Tree} {xs:List Value} (h:RepL w base S ts xs) (hw:w'.heap=w.heap):RepL w' base S ts xs :=
 RepL.leave (fun b h _ => ⟨h,fun _ => by rw [hw]⟩) (qqr _) ts xs h
theorem heap_put {w:World} {b c i:Nat} {u:Value} (h:b ≠ c):(w.setCell ⟨c,i,none⟩ u).heap[b]?=w.heap[b]?:=Below.heap_setCell _ _ _ _ h
theorem LW.tree {D:Doc} {bp:Nat} {A:Option Addr} {C:Nat} {w0 w w':World} {kind:Nat} {v:Value} {n:Nat} {xs:List Value} {at_ st:Nat} {ts:List Tree} (h:LW D bp A C w0 kind v n xs w at_ st) (hts:ts.length=n)
  (hr:RepL w (w0.heap.size+2) (fun b => v.ownBlock ≠ some b) ts xs) (hw:∀ b,w0.heap.size+2<=b->w'.heap[b]?=w.heap[b]?):RepT w' w0.heap.size (fun _ => True) (.mk kind [] ts []) [.int .i64 (kind:Nat),.string ⟨#[]⟩,v,.slice none 0 0]:=by
 rw [RepT.iff];refine ⟨v,.slice none 0 0,xs,rfl,?_,fun _ _ => trivial,RepL.leave (fun b _ h2 => ⟨trivial,fun _ => hw b h2⟩) (by omega) ts xs hr,OwnS.nil _ _,fun _ _ => trivial⟩;refine own_mono (base:=w0.heap.size+2) ⟨by rw [hts];exact h.own.1,?_⟩ (by omega);rcases h.own.2 with ⟨hn1,hn2⟩ | ⟨g,cap,cur,rfl,hb',hg,r⟩
 ·exact .inl ⟨hn1,by rw [hts];exact hn2⟩
 ·exact .inr ⟨g,cap,cur,by rw [hts],hb',by rw [hw g hb'];exact hg,by rw [hts];exact r⟩
theorem lst_close {D:Doc} {f:Nat->R Tree} {k:Nat} {ts:List Tree} (h:D.c k=93):lstRun D f k ts=.good (.mk 8 [] ts []) (k+1):=by
 have h1:wsEnd D k=k:=wsEnd_stop (by omega);have h2:cmt D k=.good () k:=by unfold cmt;rw [if_neg (by omega)]
 have h3:nlen D k=0:=by unfold nlen;rw [if_neg (by omega),if_neg (by omega)]
 have h4:spc D k=.good () k:=by
  rw [spc,h1];split
  ·rename_i k2 hc;rw [h2] at hc;injection hc with _ hc;subst hc;rw [if_pos h3]
  ·rename_i hc;rw [h2] at hc;exact absurd rfl (hc () k)
 rw [lstRun,h4];simp only [];rw [if_pos h]
theorem lst_step {D:Doc} {f:Nat->R Tree} {k k1 k2:Nat} {u:Unit} {ts:List Tree} {t:Tree} (h1:spc D k=.good u k1) (h2:¬ D.c k1=93) (h3:f k1=.good t k2) (h4:k<k2/\k2<=D.n) :
  lstRun D f k ts=match spc D k2 with | .good _ k3 => if D.c k3=44 then lstRun D f (k3+1) (ts++[t]) else if D.c k3=93 then .good (.mk 8 [] (ts++[t]) []) (k3+1) else .bad | .bad => .bad | .opn => .opn:=by
 rw [lstRun,h1];simp only [];rw [if_neg h2,h3];simp only [];rw [dif_pos h4];split
 ·rename_i h;rw [h];simp only [dite_eq_ite]
 ·rename_i h;rw [h]
 ·rename_i h;rw [h]
theorem lst_bad {D:Doc} {f:Nat->R Tree} {k k1:Nat} {u:Unit} {ts:List Tree} (h1:spc D k=.good u k1) (h2:¬ D.c k1=93) (h3:f k1=.bad):lstRun D f k ts=.bad:=by
 rw [lstRun,h1];simp only [];rw [if_neg h2,h3]
theorem lst_opn {D:Doc} {f:Nat->R Tree} {k k1:Nat} {u:Unit} {ts:List Tree} (h1:spc D k=.good u k1) (h2:¬ D.c k1=93) (h3:f k1=.opn):lstRun D f k ts=.opn:=by
 rw [lstRun,h1];simp only [];rw [if_neg h2,h3]
theorem valP_end (D:Doc) (d:Nat):valP D (d+1) D.n=.bad:=by
 have h0:=D.out D.n (qqr _);have ht:∀ m,twoRun D D.n 0 (m+1)=-1:=fun m => by rw [twoRun,if_neg (by omega)]
 have hg:grp D 10 D.n=0:=by rw [grp,dgN_stop (by rw [h0,dval_0];omega),if_pos rfl]
 have hs:sgnN D D.n=0:=by unfold sgnN;rw [if_neg (by omega)]
 have hn:numP D D.n=.bad:=by
  unfold numP;rw [ht 3,ht 1,if_neg (by omega),if_neg (by omega),hasB_past D D.n _ (by simp) (qqr _),hasB_past D D.n _ (by simp) (qqr _),hasB_past D D.n _ (by simp) (qqr _),hs];simp only [Bool.false_eq_true,if_false];unfold infN;rw [Nat.add_zero,hasB_past D D.n _ (by simp) (qqr _),hasB_past D D.n _ (by simp) (qqr _)];simp only [Bool.false_eq_true,or_self,if_false];unfold tenN;rw [Nat.add_zero,hg];simp
 rw [valP];unfold three;rw [if_neg (by omega),if_neg (by omega),hasB_past D D.n _ (by simp) (qqr _),hasB_past D D.n _ (by simp) (qqr _),if_neg (by simp),if_neg (by simp),if_neg (by omega),if_neg (by omega),hn]
 rfl
theorem lst_dead {D:Doc} {f:Nat->R Tree} {k:Nat} {ts:List Tree} (h1:spc D k=.bad):lstRun D f k ts=(f D.n).dead:=by
 rw [lstRun,h1]
theorem spc_in (D:Doc):∀ (m k k':Nat),D.n - k=m->spc D k=.good () k'->k<=k'/\(k<=D.n->k'<=D.n):=by
 intro m
 induction m using Nat.strongRecOn with
 | _ m ih =>
  intro k k' hm h;rw [spc] at h;split at h
  ·rename_i k2 hc;have h1:=cmt_ge D _ _ hc;have h1':=cmt_le D _ _ hc;have h2:=wsEnd_ge D k;have h2':=wsEnd_le D k;split at h
   ·injection h with _ h;omega
   ·rename_i hn;have h3:D.c k2 ≠ 0:=fun e => by apply hn;unfold nlen;rw [if_neg (by omega),if_neg (by omega)]
    have h4:=Doc.in_of h3;have h5:=nlen_in hn;have:=ih (D.n - (k2+nlen D k2)) (by omega) (k2+nlen D k2) k' rfl h;omega
  ·cases h
theorem spc_end (D:Doc):spc D D.n=.good () D.n:=by
 have h0:=D.out D.n (qqr _);have h1:wsEnd D D.n=D.n:=wsEnd_stop (by rw [h0];omega);have h2:cmt D D.n=.good () D.n:=by unfold cmt;rw [if_neg (by omega)]
 have h3:nlen D D.n=0:=by unfold nlen;rw [h0];rfl
 rw [spc,h1];split
 ·rename_i k2 hc;rw [h2] at hc;injection hc with _ hc;subst hc;rw [if_pos h3]
 ·rename_i hc;rw [h2] at hc;exact absurd rfl (hc () D.n)
theorem spc_not_opn (D:Doc):∀ (m k:Nat),D.n - k=m->spc D k ≠ .opn:=by
 intro m
 induction m using Nat.strongRecOn with
 | _ m ih =>
  intro k hm;rw [spc];split
  ·rename_i k2 hc;have h1:=cmt_ge D _ _ hc;have h2:=wsEnd_ge D k;split
   ·intro h;cases h
   ·rename_i hn;have h3:D.c k2 ≠ 0:=fun e => by apply hn;unfold nlen;rw [if_neg (by omega),if_neg (by omega)]
    have h4:=Doc.in_of h3;exact ih (D.n - (k2+nlen D k2)) (by omega) _ rfl
  ·intro h;cases h
theorem list_c (D:Doc) (d:Nat) (hV:ValC D d) (hVd:ValD D d) (bp:Nat) (A:Option Addr) (C:Nat) (at_:Nat) (w:World) (hp:PS D bp A C w at_ 0) (hat:at_<D.n) (hA:∀ a,A=some a->a.block<w.heap.size) (hd:d<=50) (hVin:∀ k t p,k<=D.n->valP D d k=.good t p->k<p/\p<=D.n) :
  Calls Tryz.prog 48 #[.pointer (some ⟨bp,0,none⟩),.int .i64 (50 - (d:Int))] w (ValPost D bp A C w (lstRun D (valP D d) (at_+1) [])):=by
 have hs:=D.small;have hlt:=hp.blk.lt;have HP:=qqh hp;have HA:=qqh hA;have g1:=hp.c1;have gf:=hp.f 1;have HV:=qqh hV;have HVd:=qqh hVd;clear hp hA hV hVd;obtain ⟨rr,hrr⟩:∃ r,lstRun D (valP D d) (at_+1) []=r:=⟨_,rfl⟩;rw [hrr];have HRR:=qqh hrr;clear hrr;go_enter Tryz.func48,Tryz.ntmps48;go_wp2_with fail
 go_loopw [] (fun wr => ∃ (k st:Nat) (v:Value) (n:Nat) (xs:List Value),k<=D.n/\(st=0->n<=k)/\Hid (LW D bp A C w 8 v n xs wr k st)/\Hid (LInv D (lstRun D (valP D d)) rr w wr v n xs k st)) (fun wr => left2 D bp wr)
 case atStart => exact ⟨at_+1,0,_,0,[],by omega,fun _ => by omega,LW.start HP.out HA.out _ (at_+1) (by omega) 8,.inl ⟨rfl,[],rfl,HRR.out.symm,RepL.nil.2 rfl⟩⟩
 case round =>
  obtain ⟨k,st,v,n,xs,hk,hn,hL,hI⟩:=hrel;obtain ⟨sa,sl,sc,rfl⟩:=IsSl.own hL.out.own;have g2:=hL.out.ps.c2;have hI':=hI.out;rcases hI' with ⟨rfl,ts,hts,hrun,hrep⟩ | ⟨hst,rfl,hend⟩
  ·have hn:=hn rfl;go_wp2_with fail
   refine (space_c D bp A C k 0 _ (by exact hL.out.ps) (by omega)).mono ?_;rintro e w1 ⟨rfl,hp1,hk1⟩;have hL1:=qqh (LW.call hL.out hp1 hk1);have hR1:=qqh (RepL.call hL.out hrep hk1);have hN:=qqh hrun;clear hp1 hk1 hrep hrun hI;cases hsp:spc D k with
   | good u k1 =>
    have hL1:Hid (LW D bp A C w 8 (.slice sa sl sc) n xs w1 k1 0):=(by have:=hL1.out;rw [hsp] at this;exact this);have hle:=spc_in D _ k k1 rfl hsp;have HSP:=qqh hsp;have h1:=hL1.out.ps.c1;have hf1:=hL1.out.ps.f 1;clear hsp;by_cases h93:D.c k1=93
    ·have e93:((D.c k1:Int) == 93)=true:=(by rw [beq_iff_eq];omega);have hin:=Doc.in_of (D:=D) (k:=k1) (by omega);go_wp2_with fail
     refine (peek_c D bp A C k1 0 0 _ (by exact hL1.out.ps) (by omega) (by omega) (by omega)).mono ?_;rintro e w2 ⟨rfl,nq,rfl⟩;simp only [Int.toNat_zero,Nat.add_zero];have o0:=hL1.out.out.cell 0 rfl;have o1:=hL1.out.out.cell 1 rfl;have o2:=hL1.out.out.cell 2 rfl;have o3:=hL1.out.out.cell 3 rfl;have b0:=hL1.out.res.cell 0 rfl;have b1:=hL1.out.res.cell 1 rfl;have b2:=hL1.out.res.cell 2 rfl;have b3:=hL1.out.res.cell 3 rfl;have r0:=hL1.out.res.free 0;have r1:=hL1.out.res.free 1;have r2:=hL1.out.res.free 2;have r3:=hL1.out.res.free 3;have hres:Hid (rr=.good (.mk 8 [] ts []) (k1+1)):=(by show _=_;rw [hN.out,lstRun,HSP.out];simp only [];rw [if_pos h93]);go_wp2_with fail
     have HA':Hid (∀ a:Addr,A=some a->a.block ≠ w.heap.size):=fun a ha => Nat.ne_of_lt (HA.out a ha)
     refine bodyPost_ret (v:=.agg #[.int .i64 8,.string ⟨#[]⟩,.slice sa sl sc,.slice none 0 0]) (by simp [results,Tryz.results48,go_sem,b0,b1,b2,b3]) rfl ⟨⟨_,rfl,?_⟩,?_,?_⟩
     ·exact (by rw [hres.out];exact LW.tree hL1.out hts hR1.out (fun b hb => by rw [heap_put (by omega),heap_put (by omega),heap_put (by omega),heap_put (by omega),heap_put (by omega)];rfl))
     ·rw [hres.out];exact PS.other (PS.other (PS.other (PS.other (PS.setAt (hL1.out.ps.drewN _) _ (k1+1) (by omega)) (by omega) HA'.out _) (by omega) HA'.out _) (by omega) HA'.out _) (by omega) HA'.out _
     ·exact Kp.setCell (Kp.setCell (Kp.setCell (Kp.setCell (Kp.putOnly (hL1.out.kp.drewN _) _) (.inr (qqr _)) _) (.inr (qqr _)) _) (.inr (qqr _)) _) (.inr (qqr _)) _
    ·have e93:((D.c k1:Int) == 93)=false:=qqn (by omega);go_wp2_with fail
     refine (peek_c D bp A C k1 0 0 _ (by exact hL1.out.ps) (by omega) (by omega) (by omega)).mono ?_;rintro e w2 ⟨rfl,nq,rfl⟩;simp only [Int.toNat_zero,Nat.add_zero];go_upto_region 8 with fail;refine wp_at (fun W => Hid (LW D bp A C w 8 (.slice sa sl sc) n xs W k1 0)/\Hid (RepL W (w.heap.size+2) (fun b => (Value.slice sa sl sc).ownBlock ≠ some b) ts xs)) ⟨hL1.out.drewN _,RepL.same hR1.out rfl⟩ ?_;rintro W ⟨hLW,hRW⟩;have o2:=hLW.out.out.cell 2 rfl;go_cut [] (fun wx => ∃ (sa':Option Addr) (sl' sc':Nat) (cs:List Value),Hid (LW D bp A C w 8 (.slice sa' sl' sc') (n+1) (xs++cs) wx ((valP D d k1).pos D) ((valP D d k1).st 0))/\Hid (∀ t p,valP D d k1=.good t p->RepL wx (w.heap.size+2) (fun b => (Value.slice sa' sl' sc').ownBlock ≠ some b) (ts++[t]) (xs++cs)))
     case first =>
      have hw5:IntKind.i64.wrap (50 - (d:Int)+1)=50 - (d:Int)+1:=IntWalk.i64_in _ (by omega)
      go_region_law (first
       | (refine step_appF rfl T41 _ _ rfl (w.heap.size+2) _ n xs rfl (by exact own_alloc hL3.out.own _) w3.heap.size 1 _ rfl [.int .i64 vk,.string vl,.slice ia il ic,.slice ka kl kc] rfl (fun j u hu => by rw [cell_new rfl];simpa using hu) (IsNode.one ⟨_,_,_,_,rfl,⟨_,_,_,rfl⟩,⟨_,_,_,rfl⟩⟩) (by omega) (by omega) (by have:=hL3.out.out.lt;simp;omega) ?_;intro v' w5 hown5 hg5 hfr5;obtain ⟨sa',sl',sc',rfl⟩:=IsSl.own hown5;have o25:=(LW.outG (hL3.out.alloc _) hg5).cell 2 rfl;have r25:=(LW.outG (hL3.out.alloc _) hg5).free 2)
       | (go_simp;go_at_call 24;refine (HV.out bp A C k1 _ _ (by omega) (by first | exact hLW.out.ps.drew | exact hLW.out.ps) (by omega) (fun a ha => by have:=HA.out a ha;have:=hLW.out.kp.size;simp;omega)).mono ?_;rintro e w3 ⟨⟨cs,rfl,hval⟩,hp3,hk3⟩;have hK3:=qqh hk3;have hL3:=qqh (LW.call (by first | exact hLW.out.drew | exact hLW.out) hp3 hk3);have o23:=hL3.out.out.cell 2 rfl;obtain ⟨vk,vl,vi,vy,rfl,⟨ia,il,ic,rfl⟩,⟨ka,kl,kc,rfl⟩⟩:=ValOk.node hval;have o24:=(hL3.out.alloc (.cells #[.int .i64 vk,.string vl,.slice ia il ic,.slice ka kl kc] 43)).out.cell 2 rfl;have hval:=qqh hval;clear hp3 hk3))
      all_goals
       go_wp2_with fail
       go_meet;refine ⟨sa',sl',sc',[.int .i64 vk,.string vl,.slice ia il ic,.slice ka kl kc],LW.grown (hL3.out.alloc _) hg5 hown5,fun t p ht => ?_⟩;have hv:=hval.out;rw [ht] at hv;refine RepL.grown (wv:=W) (hL3.out.alloc _) (RepL.same (w:=w3.alloc (.cells #[.int .i64 vk,.string vl,.slice ia il ic,.slice ka kl kc] 43)) ?_ rfl) ?_ (by have:=hLW.out.out.lt;omega) hg5 hown5 hfr5
       ·exact RepL.kp (RepL.call hLW.out.drew (RepL.same hRW.out rfl) hK3.out) ((Kp.refl Nil w3).alloc _) (fun _ _ h => h)
       ·refine RepT.leave (w:=w3) (base:=W.heap.size) (S:=fun _ => True) (fun b _ hb => ⟨fun e => ?_,fun hl => Below.heap_alloc _ _ _ hl⟩) (qqr _) t _ hv;have:=(hLW.out.own.lt b e).2;omega
     case rest =>
      obtain ⟨sa',sl',sc',cs,hL5,hR5⟩:=hcut;cases hv:valP D d k1 with
      | good t p2 =>
       have hpp:=hVin k1 t p2 (by omega) hv;have hR5:=qqh (hR5.out t p2 hv);have hL5:Hid (LW D bp A C w 8 (.slice sa' sl' sc') (n+1) (xs++cs) wc p2 0):=(by have:=hL5.out;rw [hv] at this;exact this);have HVV:=qqh hv;have hrun1:Hid (rr=match spc D p2 with | .good _ k3 => if D.c k3=44 then lstRun D (valP D d) (k3+1) (ts++[t]) else if D.c k3=93 then .good (.mk 8 [] (ts++[t]) []) (k3+1) else .bad | .bad => .bad | .opn => .opn):=by
        show _=_;rw [hN.out];exact lst_step HSP.out h93 hv ⟨by omega,hpp.2⟩
       clear hv;go_wp2_with fail
       refine (space_c D bp A C p2 0 _ (by exact hL5.out.ps) (by omega)).mono ?_;rintro e w6 ⟨rfl,hp6,hk6⟩;have hL6:=qqh (LW.call hL5.out hp6 hk6);have hR6:=qqh (RepL.call hL5.out hR5.out hk6);clear hp6 hk6;cases hs2:spc D p2 with
       | good u3 k3 =>
        have hL6:Hid (LW D bp A C w 8 (.slice sa' sl' sc') (n+1) (xs++cs) w6 k3 0):=(by have:=hL6.out;rw [hs2] at this;exact this);have hle3:=spc_in D _ p2 k3 rfl hs2;have hrun2:Hid (rr=if D.c k3=44 then lstRun D (valP D d) (k3+1) (ts++[t]) else if D.c k3=93 then .good (.mk 8 [] (ts++[t]) []) (k3+1) else .bad):=(by show _=_;rw [hrun1.out,hs2]);clear hs2;have y1:=hL6.out.ps.c1;have y2:=hL6.out.ps.f 1;have hts1:(ts++[t]).length=n+1:=(by rw [qqa,hts];rfl);by_cases h44:D.c k3=44
        ·have e44:((D.c k3:Int) == 44)=true:=(by rw [beq_iff_eq];omega);have hin3:=Doc.in_of (D:=D) (k:=k3) (by omega);have hrun3:Hid (rr=lstRun D (valP D d) (k3+1) (ts++[t])):=(by show _=_;rw [hrun2.out,if_pos h44]);clear h44;go_wp2_with fail
         refine (peek_c D bp A C k3 0 0 _ (by exact hL6.out.ps) (by omega) (by omega) (by omega)).mono ?_;rintro e w7 ⟨rfl,nq7,rfl⟩;simp only [Int.toNat_zero,Nat.add_zero];go_wp2_with fail
         go_roundw
         case rel => exact ⟨k3+1,0,_,n+1,_,by omega,fun _ => by omega,LW.setAt (hL6.out.drewN _) _ (k3+1) (by omega),.inl ⟨rfl,_,hts1,hrun3.out,RepL.call (LW.drewN hL6.out nq7) (RepL.same hR6.out rfl) ((Kp.refl _ _).putOnly _)⟩⟩
         case measure => rw [hL.out.ps.left2,(LW.setAt (hL6.out.drewN _) _ (k3+1) (by omega)).ps.left2];simp;omega
        ·have e44:((D.c k3:Int) == 44)=false:=qqn (by omega);by_cases h3:D.c k3=93
         ·have e3:((D.c k3:Int) == 93)=true:=(by rw [beq_iff_eq];omega);have hin3:=Doc.in_of (D:=D) (k:=k3) (by omega);have hrun3:Hid (rr=lstRun D (valP D d) k3 (ts++[t])):=(by show _=_;rw [hrun2.out,if_neg h44,if_pos h3,lst_close h3]);clear h44 h3;go_wp2_with fail
          refine (peek_c D bp A C k3 0 0 _ (by exact hL6.out.ps) (by omega) (by omega) (by omega)).mono ?_;rintro e w7 ⟨rfl,nq7,rfl⟩;simp only [Int.toNat_zero,Nat.add_zero];go_wp2_with fail
          go_roundw
          case rel => exact ⟨k3,0,_,n+1,_,by omega,fun _ => by omega,hL6.out.drewN _,.inl ⟨rfl,_,hts1,hrun3.out,RepL.same hR6.out rfl⟩⟩
          case measure => rw [hL.out.ps.left2,(LW.drewN hL6.out nq7).ps.left2];simp;omega
         ·have e3:((D.c k3:Int) == 93)=false:=qqn (by omega);have hrun3:Hid (rr=.bad):=(by show _=_;rw [hrun2.out,if_neg h44,if_neg h3]);clear h44 h3;go_wp2_with fail
          refine (peek_c D bp A C k3 0 0 _ (by exact hL6.out.ps) (by omega) (by omega) (by omega)).mono ?_;rintro e w7 ⟨rfl,nq7,rfl⟩;simp only [Int.toNat_zero,Nat.add_zero];go_wp2_with fail
          refine (fail_c D bp A C (k3) 0 _ (by exact hL6.out.ps.drewN _)).mono ?_;rintro e w8 ⟨rfl,hp8,hk8⟩;have hL8:=qqh (LW.call (by exact hL6.out.drewN _) hp8 hk8);clear hp8 hk8;go_wp2_with fail
          go_roundw
          case rel => exact ⟨D.n,_,_,n+1,_,qqr _,fun h => by simp [failSt] at h,hL8.out,.inr ⟨by simp [failSt],rfl,by show EndR _ _;rw [hrun3.out];first | exact .inl ⟨rfl,rfl⟩ | exact .inr ⟨rfl,rfl⟩⟩⟩
          case measure => rw [hL.out.ps.left2,hL8.out.ps.left2];simp [failSt] <;> omega
       | bad =>
        have hL6:Hid (LW D bp A C w 8 (.slice sa' sl' sc') (n+1) (xs++cs) w6 D.n 1):=(by have:=hL6.out;rw [hs2] at this;exact this);have hrun3:Hid (rr=.bad):=(by show _=_;rw [hrun1.out,hs2]);clear hs2;have hz0:=D.out D.n (qqr _);have x44:((D.c D.n:Int) == 44)=false:=qqn (by omega);have x93:((D.c D.n:Int) == 93)=false:=qqn (by omega);clear hz0;go_wp2_with fail
        refine (peek_c D bp A C D.n 1 0 _ (by exact hL6.out.ps) (by omega) (by omega) (by omega)).mono ?_;rintro e w7 ⟨rfl,nq7,rfl⟩;simp only [Int.toNat_zero,Nat.add_zero];go_wp2_with fail
        refine (fail_c D bp A C (D.n) 1 _ (by exact hL6.out.ps.drewN _)).mono ?_;rintro e w8 ⟨rfl,hp8,hk8⟩;have hL8:=qqh (LW.call (by exact hL6.out.drewN _) hp8 hk8);clear hp8 hk8;go_wp2_with fail
        go_roundw
        case rel => exact ⟨D.n,_,_,n+1,_,qqr _,fun h => by simp [failSt] at h,hL8.out,.inr ⟨by simp [failSt],rfl,by show EndR _ _;rw [hrun3.out];first | exact .inl ⟨rfl,rfl⟩ | exact .inr ⟨rfl,rfl⟩⟩⟩
        case measure => rw [hL.out.ps.left2,hL8.out.ps.left2];simp [failSt] <;> omega
       | opn => exact absurd hs2 (spc_not_opn D _ p2 rfl)
      | bad =>
       have hL5:Hid (LW D bp A C w 8 (.slice sa' sl' sc') (n+1) (xs++cs) wc D.n 1):=(by have:=hL5.out;rw [hv] at this;exact this);have hrun3:Hid (rr=.bad):=(by show _=_;rw [hN.out];exact lst_bad HSP.out h93 hv);clear hv;have hz0:=D.out D.n (qqr _);have x44:((D.c D.n:Int) == 44)=false:=qqn (by omega);have x93:((D.c D.n:Int) == 93)=false:=qqn (by omega);clear hz0;go_wp2_with fail
       refine (space_c D bp A C D.n 1 _ (by exact hL5.out.ps) (by omega)).mono ?_;rintro e w6 ⟨rfl,hp6,hk6⟩;have hL6:=qqh (LW.call hL5.out hp6 hk6);have hL6:Hid (LW D bp A C w 8 (.slice sa' sl' sc') (n+1) (xs++cs) w6 D.n 1):=(by have:=hL6.out;rw [spc_end] at this;exact this);clear hp6 hk6;go_wp2_with fail
       refine (peek_c D bp A C D.n 1 0 _ (by exact hL6.out.ps) (by omega) (by omega) (by omega)).mono ?_;rintro e w7 ⟨rfl,nq7,rfl⟩;simp only [Int.toNat_zero,Nat.add_zero];go_wp2_with fail
       refine (fail_c D bp A C (D.n) 1 _ (by exact hL6.out.ps.drewN _)).mono ?_;rintro e w8 ⟨rfl,hp8,hk8⟩;have hL8:=qqh (LW.call (by exact hL6.out.drewN _) hp8 hk8);clear hp8 hk8;go_wp2_with fail
       go_roundw
       case rel => exact ⟨D.n,_,_,n+1,_,qqr _,fun h => by simp [failSt] at h,hL8.out,.inr ⟨by simp [failSt],rfl,by show EndR _ _;rw [hrun3.out];first | exact .inl ⟨rfl,rfl⟩ | exact .inr ⟨rfl,rfl⟩⟩⟩
       case measure => rw [hL.out.ps.left2,hL8.out.ps.left2];simp [failSt] <;> omega
      | opn =>
       have hL5:Hid (LW D bp A C w 8 (.slice sa' sl' sc') (n+1) (xs++cs) wc D.n 2):=(by have:=hL5.out;rw [hv] at this;exact this);have hrun3:Hid (rr=.opn):=(by show _=_;rw [hN.out];exact lst_opn HSP.out h93 hv);clear hv;have hz0:=D.out D.n (qqr _);have x44:((D.c D.n:Int) == 44)=false:=qqn (by omega);have x93:((D.c D.n:Int) == 93)=false:=qqn (by omega);clear hz0;go_wp2_with fail
       refine (space_c D bp A C D.n 2 _ (by exact hL5.out.ps) (by omega)).mono ?_;rintro e w6 ⟨rfl,hp6,hk6⟩;have hL6:=qqh (LW.call hL5.out hp6 hk6);have hL6:Hid (LW D bp A C w 8 (.slice sa' sl' sc') (n+1) (xs++cs) w6 D.n 2):=(by have:=hL6.out;rw [spc_end] at this;exact this);clear hp6 hk6;go_wp2_with fail
       refine (peek_c D bp A C D.n 2 0 _ (by exact hL6.out.ps) (by omega) (by omega) (by omega)).mono ?_;rintro e w7 ⟨rfl,nq7,rfl⟩;simp only [Int.toNat_zero,Nat.add_zero];go_wp2_with fail
       refine (fail_c D bp A C (D.n) 2 _ (by exact hL6.out.ps.drewN _)).mono ?_;rintro e w8 ⟨rfl,hp8,hk8⟩;have hL8:=qqh (LW.call (by exact hL6.out.drewN _) hp8 hk8);clear hp8 hk8;go_wp2_with fail
       go_roundw
       case rel => exact ⟨D.n,_,_,n+1,_,qqr _,fun h => by simp [failSt] at h,hL8.out,.inr ⟨by simp [failSt],rfl,by show EndR _ _;rw [hrun3.out];first | exact .inl ⟨rfl,rfl⟩ | exact .inr ⟨rfl,rfl⟩⟩⟩
       case measure => rw [hL.out.ps.left2,hL8.out.ps.left2];simp [failSt] <;> omega
   | bad =>
    have hL1:Hid (LW D bp A C w 8 (.slice sa sl sc) n xs w1 D.n 1):=(by have:=hL1.out;rw [hsp] at this;exact this);have HSP:=qqh hsp;have hz0:=D.out D.n (qqr _);have e93:((D.c D.n:Int) == 93)=false:=qqn (by omega);clear hsp hz0;go_wp2_with fail
    refine (peek_c D bp A C D.n 1 0 _ (by exact hL1.out.ps) (by omega) (by omega) (by omega)).mono ?_;rintro e w2 ⟨rfl,nq,rfl⟩;simp only [Int.toNat_zero,Nat.add_zero];go_upto_region 8 with fail;refine wp_at (fun W => Hid (LW D bp A C w 8 (.slice sa sl sc) n xs W D.n 1)) (LW.drewN hL1.out _) ?_;rintro W hLW;have o2:=hLW.out.out.cell 2 rfl;go_cut [] (fun wx => ∃ (sa':Option Addr) (sl' sc':Nat) (cs:List Value),Hid (LW D bp A C w 8 (.slice sa' sl' sc') (n+1) (xs++cs) wx D.n (deadSt d 1)))
    case first =>
     have hw5:IntKind.i64.wrap (50 - (d:Int)+1)=50 - (d:Int)+1:=IntWalk.i64_in _ (by omega)
     go_region_law (first
      | (refine step_appF rfl T41 _ _ rfl (w.heap.size+2) _ n xs rfl (by exact own_alloc hL3.out.own _) w3.heap.size 1 _ rfl [.int .i64 vk,.string vl,.slice ia il ic,.slice ka kl kc] rfl (fun j u hu => by rw [cell_new rfl];simpa using hu) (IsNode.one ⟨_,_,_,_,rfl,⟨_,_,_,rfl⟩,⟨_,_,_,rfl⟩⟩) (by omega) (by omega) (by have:=hL3.out.out.lt;simp;omega) ?_;intro v' w5 hown5 hg5 hfr5;obtain ⟨sa',sl',sc',rfl⟩:=IsSl.own hown5;have o25:=(LW.outG (hL3.out.alloc _) hg5).cell 2 rfl;have r25:=(LW.outG (hL3.out.alloc _) hg5).free 2)
      | (go_simp;go_at_call 24;refine (HVd.out bp A C 1 _ _ (by omega) (by first | exact hLW.out.ps.drew | exact hLW.out.ps) (by omega) (fun a ha => by have:=HA.out a ha;have:=hLW.out.kp.size;simp;omega)).mono ?_;rintro e w3 ⟨⟨cs,rfl,hval⟩,hp3,hk3⟩;have hK3:=qqh hk3;have hL3:=qqh (LW.call (by first | exact hLW.out.drew | exact hLW.out) hp3 hk3);have o23:=hL3.out.out.cell 2 rfl;obtain ⟨vk,vl,vi,vy,rfl,⟨ia,il,ic,rfl⟩,⟨ka,kl,kc,rfl⟩⟩:=hval;have o24:=(hL3.out.alloc (.cells #[.int .i64 vk,.string vl,.slice ia il ic,.slice ka kl kc] 43)).out.cell 2 rfl;clear hp3 hk3))
     all_goals
      go_wp2_with fail
      go_meet;exact ⟨sa',sl',sc',[.int .i64 vk,.string vl,.slice ia il ic,.slice ka kl kc],LW.grown (hL3.out.alloc _) hg5 hown5⟩
    case rest =>
     obtain ⟨sa',sl',sc',cs,hL5⟩:=hcut;rcases Nat.eq_zero_or_pos d with hd0 | hd0
     ·have hL5:Hid (LW D bp A C w 8 (.slice sa' sl' sc') (n+1) (xs++cs) wc D.n 2):=(by have:=hL5.out;rw [deadSt,if_pos hd0] at this;exact this);have hrun3:Hid (rr=.opn):=(by show _=_;rw [hN.out,lst_dead HSP.out,hd0];rfl);clear hd0;have hz0:=D.out D.n (qqr _);have x44:((D.c D.n:Int) == 44)=false:=qqn (by omega);have x93:((D.c D.n:Int) == 93)=false:=qqn (by omega);clear hz0;go_wp2_with fail
      refine (space_c D bp A C D.n 2 _ (by exact hL5.out.ps) (by omega)).mono ?_;rintro e w6 ⟨rfl,hp6,hk6⟩;have hL6:=qqh (LW.call hL5.out hp6 hk6);have hL6:Hid (LW D bp A C w 8 (.slice sa' sl' sc') (n+1) (xs++cs) w6 D.n 2):=(by have:=hL6.out;rw [spc_end] at this;exact this);clear hp6 hk6;go_wp2_with fail
      refine (peek_c D bp A C D.n 2 0 _ (by exact hL6.out.ps) (by omega) (by omega) (by omega)).mono ?_;rintro e w7 ⟨rfl,nq7,rfl⟩;simp only [Int.toNat_zero,Nat.add_zero];go_wp2_with fail
      refine (fail_c D bp A C (D.n) 2 _ (by exact hL6.out.ps.drewN _)).mono ?_;rintro e w8 ⟨rfl,hp8,hk8⟩;have hL8:=qqh (LW.call (by exact hL6.out.drewN _) hp8 hk8);clear hp8 hk8;go_wp2_with fail
      go_roundw
      case rel => exact ⟨D.n,_,_,n+1,_,qqr _,fun h => by simp [failSt] at h,hL8.out,.inr ⟨by simp [failSt],rfl,by show EndR _ _;rw [hrun3.out];first | exact .inl ⟨rfl,rfl⟩ | exact .inr ⟨rfl,rfl⟩⟩⟩
      case measure => rw [hL.out.ps.left2,hL8.out.ps.left2];simp [failSt] <;> omega
     ·have hL5:Hid (LW D bp A C w 8 (.slice sa' sl' sc') (n+1) (xs++cs) wc D.n 1):=(by have:=hL5.out;rw [deadSt,if_neg (by omega)] at this;exact this);have hrun3:Hid (rr=.bad):=(by show _=_;rw [hN.out,lst_dead HSP.out,show d=(d - 1)+1 by omega,valP_end];rfl);have hz0:=D.out D.n (qqr _);have x44:((D.c D.n:Int) == 44)=false:=qqn (by omega);have x93:((D.c D.n:Int) == 93)=false:=qqn (by omega);clear hz0;go_wp2_with fail
      refine (space_c D bp A C D.n 1 _ (by exact hL5.out.ps) (by omega)).mono ?_;rintro e w6 ⟨rfl,hp6,hk6⟩;have hL6:=qqh (LW.call hL5.out hp6 hk6);have hL6:Hid (LW D bp A C w 8 (.slice sa' sl' sc') (n+1) (xs++cs) w6 D.n 1):=(by have:=hL6.out;rw [spc_end] at this;exact this);clear hp6 hk6;go_wp2_with fail
      refine (peek_c D bp A C D.n 1 0 _ (by exact hL6.out.ps) (by omega) (by omega) (by omega)).mono ?_;rintro e w7 ⟨rfl,nq7,rfl⟩;simp only [Int.toNat_zero,Nat.add_zero];go_wp2_with fail
      refine (fail_c D bp A C (D.n) 1 _ (by exact hL6.out.ps.drewN _)).mono ?_;rintro e w8 ⟨rfl,hp8,hk8⟩;have hL8:=qqh (LW.call (by exact hL6.out.drewN _) hp8 hk8);clear hp8 hk8;go_wp2_with fail
      go_roundw
      case rel => exact ⟨D.n,_,_,n+1,_,qqr _,fun h => by simp [failSt] at h,hL8.out,.inr ⟨by simp [failSt],rfl,by show EndR _ _;rw [hrun3.out];first | exact .inl ⟨rfl,rfl⟩ | exact .inr ⟨rfl,rfl⟩⟩⟩
      case measure => rw [hL.out.ps.left2,hL8.out.ps.left2];simp [failSt] <;> omega
   | opn => exact absurd hsp (spc_not_opn D _ k rfl)
  ·have est:(((st:Nat):Int) == 0)=false:=qqn (by omega);have o0:=hL.out.out.cell 0 rfl;have o1:=hL.out.out.cell 1 rfl;have o2:=hL.out.out.cell 2 rfl;have o3:=hL.out.out.cell 3 rfl;have b0:=hL.out.res.cell 0 rfl;have b1:=hL.out.res.cell 1 rfl;have b2:=hL.out.res.cell 2 rfl;have b3:=hL.out.res.cell 3 rfl;have r0:=hL.out.res.free 0;have r1:=hL.out.res.free 1;have r2:=hL.out.res.free 2;have r3:=hL.out.res.free 3;have HE:=qqh hend;clear hend;go_wp2_with fail
   have HA':Hid (∀ a:Addr,A=some a->a.block ≠ w.heap.size):=fun a ha => Nat.ne_of_lt (HA.out a ha)
   refine bodyPost_ret (v:=.agg #[.int .i64 8,.string ⟨#[]⟩,.slice sa sl sc,.slice none 0 0]) (by simp [results,Tryz.results48,go_sem,b0,b1,b2,b3]) rfl ⟨⟨_,rfl,?_⟩,?_,?_⟩
   ·exact HE.out.node ⟨_,_,_,_,rfl,⟨_,_,_,rfl⟩,⟨_,_,_,rfl⟩⟩
   ·rw [HE.out.pos,HE.out.st];exact PS.other (PS.other (PS.other (PS.other hL.out.ps (by omega) HA'.out _) (by omega) HA'.out _) (by omega) HA'.out _) (by omega) HA'.out _
   ·exact Kp.setCell (Kp.setCell (Kp.setCell (Kp.setCell hL.out.kp (.inr (qqr _)) _) (.inr (qqr _)) _) (.inr (qqr _)) _) (.inr (qqr _)) _
theorem later_y (D:Doc) (bp:Nat) (A:Option Addr) (C:Nat) (at_ st:Nat) (w:World) (hp:PS D bp A C w at_ st) (hat:at_<=1500000000) (h:latB D at_) :
  Calls Tryz.prog 70 #[.pointer (some ⟨bp,0,none⟩)] w fun e w' => e=.returned (.tuple #[])/\PS D bp A C w' D.n 2/\Kp (Only bp) w w':=by
 have h1:=later_c D bp A C at_ st w hp hat;have h2:D.c at_=10\/D.c at_=13\/D.c at_=35:=h;rw [if_pos h2,if_pos h2] at h1;exact h1
theorem later_n (D:Doc) (bp:Nat) (A:Option Addr) (C:Nat) (at_ st:Nat) (w:World) (hp:PS D bp A C w at_ st) (hat:at_<=1500000000) (h:¬ latB D at_) :
  Calls Tryz.prog 70 #[.pointer (some ⟨bp,0,none⟩)] w fun e w' => e=.returned (.tuple #[])/\PS D bp A C w' at_ st/\Kp (Only bp) w w':=by
 have h1:=later_c D bp A C at_ st w hp hat;have h2:¬ (D.c at_=10\/D.c at_=13\/D.c at_=35):=h;rw [if_neg h2,if_neg h2] at h1;exact h1
theorem tab_step {D:Doc} {f:Nat->R Tree} {k k1 k3:Nat} {ks:List (List UInt8)} {acc:List Tree} {v:Tree} (h1:keyP D k=.good ks k1) (h2:D.c k1=61) (h3:f (wsEnd D (k1+1))=.good v k3) (h4:k<k3/\k3<=D.n) :
  tabRun D f k acc=match tabNx D k3 with | .comma k5 => tabRun D f k5 (acc++[v.under ks]) | .fin k4 => .good (.mk 9 [] (acc++[v.under ks]) []) k4 | .bad => .bad | .opn => .opn:=by
 rw [tabRun,h1];simp only [];rw [if_neg (by omega),h3];simp only [];rw [dif_pos h4];split
 ·rename_i h;rw [h]
 ·rename_i h;rw [h]
 ·rename_i h;rw [h]
 ·rename_i h;rw [h]
theorem tab_vbad {D:Doc} {f:Nat->R Tree} {k k1:Nat} {ks:List (List UInt8)} {acc:List Tree} (h1:keyP D k=.good ks k1) (h2:D.c k1=61) (h3:f (wsEnd D (k1+1))=.bad):tabRun D f k acc=.bad:=by
 rw [tabRun,h1];simp only [];rw [if_neg (by omega),h3]
theorem tab_vopn {D:Doc} {f:Nat->R Tree} {k k1:Nat} {ks:List (List UInt8)} {acc:List Tree} (h1:keyP D k=.good ks k1) (h2:D.c k1=61) (h3:f (wsEnd D (k1+1))=.opn):tabRun D f k acc=.opn:=by
 rw [tabRun,h1];simp only [];rw [if_neg (by omega),h3]
theorem tab_noeq {D:Doc} {f:Nat->R Tree} {k k1:Nat} {ks:List (List UInt8)} {acc:List Tree} (h1:keyP D k=.good ks k1) (h2:¬ D.c k1=61):tabRun D f k acc=.bad:=by
 rw [tabRun,h1];simp only [];rw [if_pos h2]
theorem tab_kbad {D:Doc} {f:Nat->R Tree} {k:Nat} {acc:List Tree} (h1:keyP D k=.bad):tabRun D f k acc=.bad:=by
 rw [tabRun,h1]
theorem tab_kopn {D:Doc} {f:Nat->R Tree} {k:Nat} {acc:List Tree} (h1:keyP D k=.opn):tabRun D f k acc=.opn:=by
 rw [tabRun,h1]
theorem RepT.under {w:World} {base:Nat} {S:Nat->Prop} {t:Tree} {k l vi vy vk:Value} {ks:List (List UInt8)} (h:RepT w base S t [k,l,vi,vy]) (hk:OwnS w base vk ks) (hS:∀ g,vk.ownBlock=some g->S g):RepT w base S (t.under ks) [k,l,vi,vk]:=by
 cases t with
 | mk a b items keys =>
  rw [RepT.iff] at h;obtain ⟨vi',vy',xs,e,h1,h2,h3,_,_⟩:=h;simp at e;obtain ⟨rfl,rfl,rfl,rfl⟩:=e;show RepT w base S (.mk a b items ks) _;rw [RepT.iff];exact ⟨_,_,xs,rfl,h1,h2,h3,hk,hS⟩
theorem OwnS.kpB {w w':World} {base bp:Nat} {v:Value} {ks:List (List UInt8)} (h:OwnS w base v ks) (hk:Kp (Only bp) w w') (hb:bp<base):OwnS w' base v ks :=
 own_kp h hk (fun g hg hS => by have h1:=World.ownsRow.lt h g hg;have h2:g=bp:=hS;omega)
theorem RepL.tab {D:Doc} {bp:Nat} {A:Option Addr} {C k st k' st' k4 st4 n n':Nat} {w0 wr w4 w6 w7 w8 w9:World} {v v' vk vl vi vy vks:Value} {xs ys:List Value} {ts:List Tree} {t:Tree} {ks:List (List UInt8)}
  (hL:LW D bp A C w0 9 v n xs wr k st) (hrep:RepL wr (w0.heap.size+2) (fun b => v.ownBlock ≠ some b) ts xs) (hk4:Kp (Only bp) wr w4) (hL4:LW D bp A C w0 9 v n xs w4 k4 st4) (hko:OwnS w4 wr.heap.size vks ks) (hk6:Kp (Only bp) w4 w6)
  (hk7:Kp (Only bp) w6 w7) (hval:RepT w7 w6.heap.size (fun _ => True) t [vk,vl,vi,vy]) (hk8:Kp Nil w7 w8) (hL8:LW D bp A C w0 9 v n xs w8 k' st') (hg:w8.grownBy w9 v.ownBlock) (ho:w9.ownsRow (w0.heap.size+2) 43 4 v' n' ys) (hnew:Fresh w8 v v') :
  RepL (w9.setCell ⟨w0.heap.size+1,2,none⟩ v') (w0.heap.size+2) (fun b => v'.ownBlock ≠ some b) (ts++[t.under ks]) (xs++[vk,vl,vi,vks]):=by
 have hlt:=hL.own.lt;have hbp:=hL.lt;have hout:=hL.out.lt;have hbpr:bp<wr.heap.size:=by omega
 have hv8:RepT w8 wr.heap.size (fun b => v.ownBlock ≠ some b) t [vk,vl,vi,vy]:=RepT.leave (w:=w7) (base:=w6.heap.size) (S:=fun _ => True)
  (fun b _ hb => ⟨fun e => by have:=hlt b e;have:=hk4.size;have:=hk6.size;omega,fun hl => hk8.block b hl (fun x => x)⟩) (by have:=hk4.size;have:=hk6.size;omega) t _ hval
 have hko8:OwnS w8 wr.heap.size vks ks:=own_kp (OwnS.kpB (OwnS.kpB hko hk6 hbpr) hk7 hbpr) hk8 (fun _ _ h => h);have hU:=RepT.under hv8 hko8 (fun g hg e => by have h1:=World.ownsRow.lt hko8 g hg;have:=hlt g e;omega);refine RepL.grown (wv:=wr) hL8 ?_ hU (by omega) hg ho hnew;exact RepL.kp (RepL.call hL4 (RepL.call hL hrep hk4) (hk6.trans hk7)) hk8 (fun _ _ h => h)
theorem table_c (D:Doc) (d:Nat) (hV:ValC D d) (bp:Nat) (A:Option Addr) (C:Nat) (at_:Nat) (w:World) (hp:PS D bp A C w at_ 0) (hat:at_<D.n) (hA:∀ a,A=some a->a.block<w.heap.size) (hd:d<=50) (hVin:∀ k t p,k<=D.n->valP D d k=.good t p->k<p/\p<=D.n) :
  Calls Tryz.prog 49 #[.pointer (some ⟨bp,0,none⟩),.int .i64 (50 - (d:Int))] w (ValPost D bp A C w (tabP D (valP D d) (at_+1))):=by
 have hs:=D.small;have hlt:=hp.blk.lt;have HA:=qqh hA;have hL0:=qqh (LW.start hp hA ((at_:Int)+1) (at_+1) (by omega) 9);have g1:=hp.c1;have gf:=hp.f 1;have HV:=qqh hV;clear hp hA hV;have hwge:=wsEnd_ge D (at_+1);have hwle:=wsEnd_le D (at_+1);obtain ⟨rr,hrr⟩:∃ r,tabP D (valP D d) (at_+1)=r:=⟨_,rfl⟩;rw [hrr];obtain ⟨k0,hk0⟩:∃ t,wsEnd D (at_+1)=t:=⟨_,rfl⟩;have HRR:Hid (rr=if D.c k0=125 then .good (.mk 9 [] [] []) (k0+1) else if latB D k0 then .opn else tabRun D (valP D d) k0 []):=by show _=_;rw [<- hrr,tabP,hk0]
 rw [hk0] at hwge hwle;have HK0:=qqh hk0;clear hrr hk0;go_enter Tryz.func49,Tryz.ntmps49;go_wp2_with fail
 refine (blanks_c D bp A C (at_+1) 0 _ (by exact hL0.out.ps) (by omega)).mono ?_;rintro e w1 ⟨rfl,hp1,hk1⟩;rw [HK0.out] at hp1;have hL1:=qqh (LW.call hL0.out hp1 hk1);have h1:=hL1.out.ps.c1;have h1f:=hL1.out.ps.f 1;clear hp1 hk1;by_cases hz:D.c k0=125
 ·have ez:((D.c k0:Int) == 125)=true:=by rw [beq_iff_eq];omega
  have hres:Hid (rr=.good (.mk 9 [] [] []) (k0+1)):=by show _=_;rw [HRR.out,if_pos hz]
  have hin:=Doc.in_of (D:=D) (k:=k0) (by omega);clear hz;go_wp2_with fail
  refine (peek_c D bp A C k0 0 0 _ (by exact hL1.out.ps) (by omega) (by omega) (by omega)).mono ?_;rintro e w2 ⟨rfl,nq,rfl⟩;simp only [Int.toNat_zero,Nat.add_zero];have o0:=hL1.out.out.cell 0 rfl;have o1:=hL1.out.out.cell 1 rfl;have o2:=hL1.out.out.cell 2 rfl;have o3:=hL1.out.out.cell 3 rfl;have b0:=hL1.out.res.cell 0 rfl;have b1:=hL1.out.res.cell 1 rfl;have b2:=hL1.out.res.cell 2 rfl;have b3:=hL1.out.res.cell 3 rfl;have r0:=hL1.out.res.free 0;have r1:=hL1.out.res.free 1;have r2:=hL1.out.res.free 2;have r3:=hL1.out.res.free 3;go_wp2_with fail
  have HA':Hid (∀ a:Addr,A=some a->a.block ≠ w.heap.size):=fun a ha => Nat.ne_of_lt (HA.out a ha)
  refine bodyPost_ret (v:=.agg #[.int .i64 9,.string ⟨#[]⟩,.slice none 0 0,.slice none 0 0]) (by simp [results,Tryz.results49,go_sem,b0,b1,b2,b3]) rfl ⟨⟨_,rfl,?_⟩,?_,?_⟩
  ·exact (by rw [hres.out];exact LW.tree (ts:=[]) hL1.out rfl (RepL.nil.2 rfl) (fun b hb => by rw [heap_put (by omega),heap_put (by omega),heap_put (by omega),heap_put (by omega),heap_put (by omega)];rfl))
  ·rw [hres.out];exact PS.other (PS.other (PS.other (PS.other (PS.setAt (hL1.out.ps.drewN _) _ (k0+1) (by omega)) (by omega) HA'.out _) (by omega) HA'.out _) (by omega) HA'.out _) (by omega) HA'.out _
  ·exact Kp.setCell (Kp.setCell (Kp.setCell (Kp.setCell (Kp.putOnly (hL1.out.kp.drewN _) _) (.inr (qqr _)) _) (.inr (qqr _)) _) (.inr (qqr _)) _) (.inr (qqr _)) _
 ·have ez:((D.c k0:Int) == 125)=false:=qqn (by omega);go_wp2_with fail
  refine (peek_c D bp A C k0 0 0 _ (by exact hL1.out.ps) (by omega) (by omega) (by omega)).mono ?_;rintro e w2 ⟨rfl,nq,rfl⟩;simp only [Int.toNat_zero,Nat.add_zero];go_wp2_with fail
  refine (later_c D bp A C k0 0 _ (by exact hL1.out.ps.drewN _) (by omega)).mono ?_;rintro e w3 ⟨rfl,hp3,hk3⟩;have hL3:=qqh (LW.call (by exact hL1.out.drewN _) hp3 hk3);clear hp3 hk3;go_wp2_with fail
  go_loopw [] (fun wr => ∃ (k st:Nat) (v:Value) (n:Nat) (xs:List Value),k<=D.n/\(st=0->n<=k)/\Hid (LW D bp A C w 9 v n xs wr k st)/\Hid (LInv D (tabRun D (valP D d)) rr w wr v n xs k st)) (fun wr => left2 D bp wr)
  case atStart =>
   by_cases hl:latB D k0
   ·have hl2:D.c k0=10\/D.c k0=13\/D.c k0=35:=hl;have hL3:=hL3.out;rw [if_pos hl2,if_pos hl2] at hL3;exact ⟨D.n,2,_,0,[],by omega,fun _ => by omega,hL3,.inr ⟨by omega,rfl,.inr ⟨rfl,by rw [HRR.out,if_neg hz,if_pos hl]⟩⟩⟩
   ·have hl2:¬ (D.c k0=10\/D.c k0=13\/D.c k0=35):=hl;have hL3:=hL3.out;rw [if_neg hl2,if_neg hl2] at hL3;exact ⟨k0,0,_,0,[],by omega,fun _ => by omega,hL3,.inl ⟨rfl,[],rfl,by rw [HRR.out,if_neg hz,if_neg hl],RepL.nil.2 rfl⟩⟩
  case round =>
   obtain ⟨k,st,v,n,xs,hk,hn,hL,hI⟩:=hrel;obtain ⟨sa,sl,sc,rfl⟩:=IsSl.own hL.out.own;have g2:=hL.out.ps.c2;have hI':=hI.out;rcases hI' with ⟨rfl,ts,hts,hrun,hrep⟩ | ⟨hst,rfl,hend⟩
   ·have hn:=hn rfl;have hN:=qqh hrun;have HREP:=qqh hrep;clear hrun hI hrep;go_wp2_with fail
    refine (keys_c D bp A C k _ (by exact hL.out.ps) (by omega) (fun a ha => by have:=HA.out a ha;have:=hL.out.kp.size;omega)).mono ?_;rintro e w4 ⟨⟨v6,rfl,hko⟩,hp4,hk4⟩;have hL4:=qqh (LW.call hL.out hp4 hk4);have HK4:=qqh hk4;clear hp4 hk4;cases hkey:keyP D k with
    | good ks k1 =>
     rw [hkey] at hko;have hko:OwnS w4 wr.heap.size v6 ks:=hko;obtain ⟨ka,kl,kc,rfl⟩:=IsSl.own hko;have hKO:=qqh hko;clear hko;have hL4:Hid (LW D bp A C w 9 (.slice sa sl sc) n xs w4 k1 0):=(by have:=hL4.out;rw [hkey] at this;exact this);have HKEY:=qqh hkey;have hkge:=keyP_ge D k k1 ks hkey;clear hkey;have h1:=hL4.out.ps.c1;have h1f:=hL4.out.ps.f 1;by_cases h61:D.c k1=61
     ·have e61:((D.c k1:Int) != 61)=false:=(by rw [bne_eq_false_iff_eq];omega);have H61:=qqh h61;have hin:=Doc.in_of (D:=D) (k:=k1) (by omega);have hb1:=wsEnd_ge D (k1+1);have hb2:=wsEnd_le D (k1+1);obtain ⟨k2,hk2⟩:∃ t,wsEnd D (k1+1)=t:=⟨_,rfl⟩;rw [hk2] at hb1 hb2;have HK2:=qqh hk2;clear hk2 h61;go_wp2_with fail
      refine (peek_c D bp A C k1 0 0 _ (by exact hL4.out.ps) (by omega) (by omega) (by omega)).mono ?_;rintro e w5 ⟨rfl,nq5,rfl⟩;simp only [Int.toNat_zero,Nat.add_zero];go_wp2_with fail
      have hL5:=qqh (LW.setAt (hL4.out.drewN nq5) ((k1:Int)+1) (k1+1) (by omega));refine (blanks_c D bp A C (k1+1) 0 _ (by exact hL5.out.ps) (by omega)).mono ?_;rintro e w6 ⟨rfl,hp6,hk6⟩;rw [HK2.out] at hp6;have hL6:=qqh (LW.call hL5.out hp6 hk6);have HK6:=qqh ((((Kp.refl (Only bp) w4).drewN nq5).putOnly (.int .i64 ((k1:Int)+1))).trans hk6);clear hp6 hk6;have hw5:IntKind.i64.wrap (50 - (d:Int)+1)=50 - (d:Int)+1:=IntWalk.i64_in _ (by omega);go_wp2_with fail
      refine (HV.out bp A C k2 _ _ (by omega) (by exact hL6.out.ps) (by omega) (fun a ha => by have:=HA.out a ha;have:=hL6.out.kp.size;omega)).mono ?_;rintro e w7 ⟨⟨cs,rfl,hval⟩,hp7,hk7⟩;obtain ⟨vk,vl,vi,vy,rfl,⟨ia,il,ic,rfl⟩,⟨ja,jl,jc,rfl⟩⟩:=ValOk.node hval;have hL7:=qqh (LW.call hL6.out hp7 hk7);have hK7:=qqh hk7;have hval:=qqh hval;clear hp7 hk7;have hL8:=qqh (LW.alloc hL7.out (.cells #[.int .i64 vk,.string vl,.slice ia il ic,.slice ka kl kc] 43));have hB8:=Blk.new w7 [.int .i64 vk,.string vl,.slice ia il ic,.slice ka kl kc] 43;have v0:=hB8.cell 0 rfl;have v1:=hB8.cell 1 rfl;have v2:=hB8.cell 2 rfl;have v3:=hB8.cell 3 rfl;have o2:=hL8.out.out.cell 2 rfl;clear hB8;go_wp2_with (at_builtin;refine wpList_appF rfl T41 _ _ rfl (w.heap.size+2) _ n xs rfl (by exact own_alloc hL8.out.own _) (w7.heap.size+1) 1 _ rfl [.int .i64 vk,.string vl,.slice ia il ic,.slice ka kl kc] rfl (fun j u hu => by rw [cell_new (by simp)];simpa using hu) (IsNode.one ⟨_,_,_,_,rfl,⟨_,_,_,rfl⟩,⟨_,_,_,rfl⟩⟩) (by omega) (by omega) (by have:=hL8.out.out.lt;simp at *;omega) ?_)
      intro v' w9 hown9 hg9 hfr9;obtain ⟨sa',sl',sc',rfl⟩:=IsSl.own hown9;have o25:=(LW.outG (hL8.out.alloc _) hg9).cell 2 rfl;have r25:=(LW.outG (hL8.out.alloc _) hg9).free 2;have hL9:=qqh (LW.grown (hL8.out.alloc _) hg9 hown9);have hR9:Hid (∀ t p,valP D d k2=.good t p->RepL (w9.setCell ⟨w.heap.size+1,2,none⟩ (.slice sa' sl' sc')) (w.heap.size+2) (fun b => (Value.slice sa' sl' sc').ownBlock ≠ some b) (ts++[t.under ks]) (xs++[.int .i64 vk,.string vl,.slice ia il ic,.slice ka kl kc])):=by
       intro t p ht;have hv:=hval.out;rw [ht] at hv;exact RepL.tab hL.out HREP.out HK4.out hL4.out hKO.out HK6.out hK7.out hv (((Kp.refl _ _).alloc _).alloc _) (hL8.out.alloc _) hg9 hown9 hfr9
      clear hown9 hg9 hfr9 v0 v1 v2 v3 o2;go_wp2_with fail
      clear o25 r25;generalize (w9.setCell ⟨w.heap.size+1,2,none⟩ (.slice sa' sl' sc'))=W at hL9 hR9 ⊢;have hL10:=hL9;have hR10:=hR9;clear hL9 hR9;generalize xs++[.int .i64 vk,.string vl,.slice ia il ic,.slice ka kl kc]=zs at hL10 hR10;cases hv:valP D d k2 with
      | good t p2 =>
       have hpp:=hVin k2 t p2 (by omega) hv;have hR10:=qqh (hR10.out t p2 hv);have hL10:Hid (LW D bp A C w 9 (.slice sa' sl' sc') (n+1) zs W p2 0):=(by have:=hL10.out;rw [hv] at this;exact this);have hrun1:Hid (rr=match tabNx D p2 with | .comma k5 => tabRun D (valP D d) k5 (ts++[t.under ks]) | .fin k4 => .good (.mk 9 [] (ts++[t.under ks]) []) k4 | .bad => .bad | .opn => .opn):=by
        show _=_;rw [hN.out];exact tab_step HKEY.out H61.out (by rw [HK2.out];exact hv) ⟨by omega,hpp.2⟩
       clear hv hval;have hts1:(ts++[t.under ks]).length=n+1:=(by rw [qqa,hts];rfl);have HTS:=qqh hts1;have hb3:=wsEnd_ge D p2;have hb4:=wsEnd_le D p2;obtain ⟨k3,hk3⟩:∃ t,wsEnd D p2=t:=⟨_,rfl⟩;rw [hk3] at hb3 hb4;have HK3:=qqh hk3;have hrun2:Hid (rr=if D.c k3=44 then (if D.c (wsEnd D (k3+1))=125 then .opn else if latB D (wsEnd D (k3+1)) then .opn else tabRun D (valP D d) (wsEnd D (k3+1)) (ts++[t.under ks])) else if D.c k3=125 then .good (.mk 9 [] (ts++[t.under ks]) []) (k3+1) else if latB D k3 then .opn else .bad):=by
        show _=_;rw [hrun1.out];unfold tabNx;rw [hk3];by_cases c1:D.c k3=44
        ·rw [if_pos c1,if_pos c1];by_cases c2:D.c (wsEnd D (k3+1))=125
         ·rw [if_pos c2,if_pos c2]
         rw [if_neg c2,if_neg c2];by_cases c3:latB D (wsEnd D (k3+1))
         ·rw [if_pos c3,if_pos c3]
         rw [if_neg c3,if_neg c3]
        rw [if_neg c1,if_neg c1];by_cases c2:D.c k3=125
        ·rw [if_pos c2,if_pos c2]
        rw [if_neg c2,if_neg c2];by_cases c3:latB D k3
        ·rw [if_pos c3,if_pos c3]
        rw [if_neg c3,if_neg c3]
       clear hk3 hts1;go_wp2_with fail
       refine (blanks_c D bp A C (p2) 0 _ (by exact hL10.out.ps) (by omega)).mono ?_;rintro e w11 ⟨rfl,hpx,hkx⟩;rw [HK3.out] at hpx;have hL11:=qqh (LW.call hL10.out hpx hkx);have hR11:=qqh (RepL.call hL10.out hR10.out hkx);have y1:=hL11.out.ps.c1;have y2:=hL11.out.ps.f 1;clear hpx hkx;go_wp2_with fail
       refine (peek_c D bp A C k3 0 0 _ (by exact hL11.out.ps) (by omega) (by omega) (by omega)).mono ?_;rintro e wqa ⟨rfl,nqa,rfl⟩;simp only [Int.toNat_zero,Nat.add_zero];by_cases h44:D.c k3=44
       ·have e44:((D.c k3:Int) == 44)=true:=(by rw [beq_iff_eq];omega);have hin3:=Doc.in_of (D:=D) (k:=k3) (by omega);have hb5:=wsEnd_ge D (k3+1);have hb6:=wsEnd_le D (k3+1);obtain ⟨k5,hk5⟩:∃ t,wsEnd D (k3+1)=t:=⟨_,rfl⟩;rw [hk5] at hb5 hb6;have HK5:=qqh hk5;have hrun3:Hid (rr=if D.c k5=125 then .opn else if latB D k5 then .opn else tabRun D (valP D d) k5 (ts++[t.under ks])):=(by show _=_;rw [hrun2.out,if_pos h44,hk5]);clear hk5 h44;go_wp2_with fail
        have hL12:=qqh (LW.setAt (hL11.out.drewN nqa) ((k3:Int)+1) (k3+1) (by omega));have hR12:=qqh (RepL.call (LW.drewN hL11.out nqa) (RepL.same hR11.out rfl) (Kp.putOnly (i:=1) (Kp.refl (Only bp) (w11.drewN nqa)) (.int .i64 ((k3:Int)+1))));refine (blanks_c D bp A C (k3+1) 0 _ (by exact hL12.out.ps) (by omega)).mono ?_;rintro e w13 ⟨rfl,hpx,hkx⟩;rw [HK5.out] at hpx;have hL13:=qqh (LW.call hL12.out hpx hkx);have hR13:=qqh (RepL.call hL12.out hR12.out hkx);clear hpx hkx;go_wp2_with fail
        refine (peek_c D bp A C k5 0 0 _ (by exact hL13.out.ps) (by omega) (by omega) (by omega)).mono ?_;rintro e wqb ⟨rfl,nqb,rfl⟩;simp only [Int.toNat_zero,Nat.add_zero];by_cases h125:D.c k5=125
        ·have e125:((D.c k5:Int) == 125)=true:=(by rw [beq_iff_eq];omega);have hrun4:Hid (rr=.opn):=(by show _=_;rw [hrun3.out,if_pos h125]);clear h125;go_wp2_with fail
         refine (open_c D bp A C k5 0 _ (by exact hL13.out.ps.drewN _)).mono ?_;rintro e w14 ⟨rfl,hpx,hkx⟩;have hL14:=qqh (LW.call (hL13.out.drewN _) hpx hkx);have hz2:¬ latB D D.n:=(by have:=D.out D.n (qqr _);unfold latB;omega);clear hpx hkx;go_wp2_with fail
         refine (later_n D bp A C D.n 2 _ (by exact hL14.out.ps) (by omega) hz2).mono ?_;rintro e w15 ⟨rfl,hpx,hkx⟩;have hL15:=qqh (LW.call hL14.out hpx hkx);clear hpx hkx hz2;go_wp2_with fail
         go_roundw
         case rel => exact ⟨D.n,_,_,n+1,_,qqr _,fun h => by simp at h,hL15.out,.inr ⟨by simp,rfl,by show EndR _ _;rw [hrun4.out];first | exact .inl ⟨rfl,rfl⟩ | exact .inr ⟨rfl,rfl⟩⟩⟩
         case measure => rw [hL.out.ps.left2,hL15.out.ps.left2];simp <;> omega
        ·have e125:((D.c k5:Int) == 125)=false:=qqn (by omega);by_cases hl:latB D k5
         ·have hrun4:Hid (rr=.opn):=(by show _=_;rw [hrun3.out,if_neg h125,if_pos hl]);go_wp2_with fail
          refine (later_y D bp A C k5 0 _ (by exact hL13.out.ps.drewN _) (by omega) hl).mono ?_;rintro e w15 ⟨rfl,hpx,hkx⟩;have hL15:=qqh (LW.call (hL13.out.drewN _) hpx hkx);clear hpx hkx hl h125;go_wp2_with fail
          go_roundw
          case rel => exact ⟨D.n,_,_,n+1,_,qqr _,fun h => by simp at h,hL15.out,.inr ⟨by simp,rfl,by show EndR _ _;rw [hrun4.out];first | exact .inl ⟨rfl,rfl⟩ | exact .inr ⟨rfl,rfl⟩⟩⟩
          case measure => rw [hL.out.ps.left2,hL15.out.ps.left2];simp <;> omega
         ·have hrun4:Hid (rr=tabRun D (valP D d) k5 (ts++[t.under ks])):=(by show _=_;rw [hrun3.out,if_neg h125,if_neg hl]);go_wp2_with fail
          refine (later_n D bp A C k5 0 _ (by exact hL13.out.ps.drewN _) (by omega) hl).mono ?_;rintro e w15 ⟨rfl,hpx,hkx⟩;have hL15:=qqh (LW.call (hL13.out.drewN _) hpx hkx);have hR15:=qqh (RepL.call (hL13.out.drewN _) (RepL.same hR13.out rfl) hkx);clear hpx hkx hl h125;go_wp2_with fail
          go_roundw
          case rel => exact ⟨k5,0,_,n+1,_,by omega,fun _ => by omega,hL15,.inl ⟨rfl,_,HTS.out,hrun4.out,hR15.out⟩⟩
          case measure => rw [hL.out.ps.left2,hL15.out.ps.left2];simp;omega
       ·have e44:((D.c k3:Int) == 44)=false:=qqn (by omega);by_cases h125:D.c k3=125
        ·have e125:((D.c k3:Int) == 125)=true:=(by rw [beq_iff_eq];omega);have hin3:=Doc.in_of (D:=D) (k:=k3) (by omega);have hres:Hid (rr=.good (.mk 9 [] (ts++[t.under ks]) []) (k3+1)):=(by show _=_;rw [hrun2.out,if_neg h44,if_pos h125]);clear h44 h125;have o0:=hL11.out.out.cell 0 rfl;have o1:=hL11.out.out.cell 1 rfl;have o2:=hL11.out.out.cell 2 rfl;have o3:=hL11.out.out.cell 3 rfl;have b0:=hL11.out.res.cell 0 rfl;have b1:=hL11.out.res.cell 1 rfl;have b2:=hL11.out.res.cell 2 rfl;have b3:=hL11.out.res.cell 3 rfl;have r0:=hL11.out.res.free 0;have r1:=hL11.out.res.free 1;have r2:=hL11.out.res.free 2;have r3:=hL11.out.res.free 3;go_wp2_with fail
         have HA':Hid (∀ a:Addr,A=some a->a.block ≠ w.heap.size):=fun a ha => Nat.ne_of_lt (HA.out a ha)
         refine bodyPost_ret (v:=.agg #[.int .i64 9,.string ⟨#[]⟩,.slice sa' sl' sc',.slice none 0 0]) (by simp [results,Tryz.results49,go_sem,b0,b1,b2,b3]) rfl ⟨⟨_,rfl,?_⟩,?_,?_⟩
         ·exact (by rw [hres.out];exact LW.tree hL11.out HTS.out hR11.out (fun b hb => by rw [heap_put (by omega),heap_put (by omega),heap_put (by omega),heap_put (by omega),heap_put (by omega)];rfl))
         ·rw [hres.out];exact PS.other (PS.other (PS.other (PS.other (PS.setAt (hL11.out.ps.drewN _) _ (k3+1) (by omega)) (by omega) HA'.out _) (by omega) HA'.out _) (by omega) HA'.out _) (by omega) HA'.out _
         ·exact Kp.setCell (Kp.setCell (Kp.setCell (Kp.setCell (Kp.putOnly (hL11.out.kp.drewN _) _) (.inr (qqr _)) _) (.inr (qqr _)) _) (.inr (qqr _)) _) (.inr (qqr _)) _
        ·have e125:((D.c k3:Int) == 125)=false:=qqn (by omega);by_cases hl:latB D k3
         ·have hrun4:Hid (rr=.opn):=(by show _=_;rw [hrun2.out,if_neg h44,if_neg h125,if_pos hl]);go_wp2_with fail
          refine (later_y D bp A C k3 0 _ (by exact hL11.out.ps.drewN _) (by omega) hl).mono ?_;rintro e w15 ⟨rfl,hpx,hkx⟩;have hL15:=qqh (LW.call (hL11.out.drewN _) hpx hkx);have s2:=hL15.out.ps.c2;clear hpx hkx hl h125 h44;go_wp2_with fail
          go_roundw
          case rel => exact ⟨D.n,_,_,n+1,_,qqr _,fun h => by simp at h,hL15.out,.inr ⟨by simp,rfl,by show EndR _ _;rw [hrun4.out];first | exact .inl ⟨rfl,rfl⟩ | exact .inr ⟨rfl,rfl⟩⟩⟩
          case measure => rw [hL.out.ps.left2,hL15.out.ps.left2];simp <;> omega
         ·have hrun4:Hid (rr=.bad):=(by show _=_;rw [hrun2.out,if_neg h44,if_neg h125,if_neg hl]);go_wp2_with fail
          refine (later_n D bp A C k3 0 _ (by exact hL11.out.ps.drewN _) (by omega) hl).mono ?_;rintro e w15 ⟨rfl,hpx,hkx⟩;have hL15:=qqh (LW.call (hL11.out.drewN _) hpx hkx);have s2:=hL15.out.ps.c2;clear hpx hkx hl h125 h44;go_wp2_with fail
          refine (fail_c D bp A C k3 0 _ (by exact hL15.out.ps)).mono ?_;rintro e w16 ⟨rfl,hpx,hkx⟩;have hL16:=qqh (LW.call hL15.out hpx hkx);clear hpx hkx;go_wp2_with fail
          go_roundw
          case rel => exact ⟨D.n,_,_,n+1,_,qqr _,fun h => by simp [failSt] at h,hL16.out,.inr ⟨by simp [failSt],rfl,by show EndR _ _;rw [hrun4.out];first | exact .inl ⟨rfl,rfl⟩ | exact .inr ⟨rfl,rfl⟩⟩⟩
          case measure => rw [hL.out.ps.left2,hL16.out.ps.left2];simp [failSt] <;> omega
      | bad =>
       have hL10:Hid (LW D bp A C w 9 (.slice sa' sl' sc') (n+1) zs W D.n 1):=(by have:=hL10.out;rw [hv] at this;exact this);have hrun3:Hid (rr=.bad):=(by show _=_;rw [hN.out];exact tab_vbad HKEY.out H61.out (by rw [HK2.out];exact hv));clear hv hval hR10;have hz0:=D.out D.n (qqr _);have x44:((D.c D.n:Int) == 44)=false:=qqn (by omega);have x125:((D.c D.n:Int) == 125)=false:=qqn (by omega);have hz1:wsEnd D D.n=D.n:=wsEnd_stop (by omega);have HZ:=qqh hz1;have hz2:¬ latB D D.n:=(by unfold latB;omega);have HZ2:=qqh hz2;clear hz0 hz1 hz2;go_wp2_with fail
       refine (blanks_c D bp A C (D.n) 1 _ (by exact hL10.out.ps) (by omega)).mono ?_;rintro e w11 ⟨rfl,hpx,hkx⟩;rw [HZ.out] at hpx;have hL11:=qqh (LW.call hL10.out hpx hkx);clear hpx hkx;go_wp2_with fail
       refine (peek_c D bp A C D.n 1 0 _ (by exact hL11.out.ps) (by omega) (by omega) (by omega)).mono ?_;rintro e wqa ⟨rfl,nqa,rfl⟩;simp only [Int.toNat_zero,Nat.add_zero];go_wp2_with fail
       refine (later_n D bp A C D.n 1 _ (by exact hL11.out.ps.drewN _) (by omega) HZ2.out).mono ?_;rintro e w12 ⟨rfl,hpx,hkx⟩;have hL12:=qqh (LW.call (hL11.out.drewN _) hpx hkx);have s2:=hL12.out.ps.c2;clear hpx hkx;go_wp2_with fail
       go_roundw
       case rel => exact ⟨D.n,_,_,n+1,_,qqr _,fun h => by simp at h,hL12.out,.inr ⟨by simp,rfl,by show EndR _ _;rw [hrun3.out];first | exact .inl ⟨rfl,rfl⟩ | exact .inr ⟨rfl,rfl⟩⟩⟩
       case measure => rw [hL.out.ps.left2,hL12.out.ps.left2];simp <;> omega
      | opn =>
       have hL10:Hid (LW D bp A C w 9 (.slice sa' sl' sc') (n+1) zs W D.n 2):=(by have:=hL10.out;rw [hv] at this;exact this);have hrun3:Hid (rr=.opn):=(by show _=_;rw [hN.out];exact tab_vopn HKEY.out H61.out (by rw [HK2.out];exact hv));clear hv hval hR10;have hz0:=D.out D.n (qqr _);have x44:((D.c D.n:Int) == 44)=false:=qqn (by omega);have x125:((D.c D.n:Int) == 125)=false:=qqn (by omega);have hz1:wsEnd D D.n=D.n:=wsEnd_stop (by omega);have HZ:=qqh hz1;have hz2:¬ latB D D.n:=(by unfold latB;omega);have HZ2:=qqh hz2;clear hz0 hz1 hz2;go_wp2_with fail
       refine (blanks_c D bp A C (D.n) 2 _ (by exact hL10.out.ps) (by omega)).mono ?_;rintro e w11 ⟨rfl,hpx,hkx⟩;rw [HZ.out] at hpx;have hL11:=qqh (LW.call hL10.out hpx hkx);clear hpx hkx;go_wp2_with fail
       refine (peek_c D bp A C D.n 2 0 _ (by exact hL11.out.ps) (by omega) (by omega) (by omega)).mono ?_;rintro e wqa ⟨rfl,nqa,rfl⟩;simp only [Int.toNat_zero,Nat.add_zero];go_wp2_with fail
       refine (later_n D bp A C D.n 2 _ (by exact hL11.out.ps.drewN _) (by omega) HZ2.out).mono ?_;rintro e w12 ⟨rfl,hpx,hkx⟩;have hL12:=qqh (LW.call (hL11.out.drewN _) hpx hkx);have s2:=hL12.out.ps.c2;clear hpx hkx;go_wp2_with fail
       go_roundw
       case rel => exact ⟨D.n,_,_,n+1,_,qqr _,fun h => by simp at h,hL12.out,.inr ⟨by simp,rfl,by show EndR _ _;rw [hrun3.out];first | exact .inl ⟨rfl,rfl⟩ | exact .inr ⟨rfl,rfl⟩⟩⟩
       case measure => rw [hL.out.ps.left2,hL12.out.ps.left2];simp <;> omega
     ·have e61:((D.c k1:Int) != 61)=true:=(by rw [bne_iff_ne];omega);have hres:Hid (rr=.bad):=(by show _=_;rw [hN.out];exact tab_noeq HKEY.out h61);clear h61;go_wp2_with fail
      refine (peek_c D bp A C k1 0 0 _ (by exact hL4.out.ps) (by omega) (by omega) (by omega)).mono ?_;rintro e wqa ⟨rfl,nqa,rfl⟩;simp only [Int.toNat_zero,Nat.add_zero];go_wp2_with fail
      refine (fail_c D bp A C (k1) 0 _ (by exact hL4.out.ps.drewN _)).mono ?_;rintro e w8 ⟨rfl,hpx,hkx⟩;have hL5:=qqh (LW.call (hL4.out.drewN _) hpx hkx);clear hpx hkx;have o0:=hL5.out.out.cell 0 rfl;have o1:=hL5.out.out.cell 1 rfl;have o2:=hL5.out.out.cell 2 rfl;have o3:=hL5.out.out.cell 3 rfl;have b0:=hL5.out.res.cell 0 rfl;have b1:=hL5.out.res.cell 1 rfl;have b2:=hL5.out.res.cell 2 rfl;have b3:=hL5.out.res.cell 3 rfl;have r0:=hL5.out.res.free 0;have r1:=hL5.out.res.free 1;have r2:=hL5.out.res.free 2;have r3:=hL5.out.res.free 3;go_wp2_with fail
      have HA':Hid (∀ a:Addr,A=some a->a.block ≠ w.heap.size):=fun a ha => Nat.ne_of_lt (HA.out a ha)
      refine bodyPost_ret (v:=.agg #[.int .i64 9,.string ⟨#[]⟩,.slice sa sl sc,.slice none 0 0]) (by simp [results,Tryz.results49,go_sem,b0,b1,b2,b3]) rfl ⟨⟨_,rfl,?_⟩,?_,?_⟩
      ·exact (by rw [hres.out];exact ⟨_,_,_,_,rfl,⟨_,_,_,rfl⟩,⟨_,_,_,rfl⟩⟩)
      ·rw [hres.out];exact PS.other (PS.other (PS.other (PS.other hL5.out.ps (by omega) HA'.out _) (by omega) HA'.out _) (by omega) HA'.out _) (by omega) HA'.out _
      ·exact Kp.setCell (Kp.setCell (Kp.setCell (Kp.setCell hL5.out.kp (.inr (qqr _)) _) (.inr (qqr _)) _) (.inr (qqr _)) _) (.inr (qqr _)) _
    | bad =>
     have hL4:Hid (LW D bp A C w 9 (.slice sa sl sc) n xs w4 D.n 1):=(by have:=hL4.out;rw [hkey] at this;exact this);have hres:Hid (rr=.bad):=(by show _=_;rw [hN.out];exact tab_kbad hkey);rw [hkey] at hko;obtain ⟨ka,kl,kc,rfl⟩:IsSl v6:=hko;have hz0:=D.out D.n (qqr _);have e61:((D.c D.n:Int) != 61)=true:=(by rw [bne_iff_ne];omega);clear hkey hz0;go_wp2_with fail
     refine (peek_c D bp A C D.n 1 0 _ (by exact hL4.out.ps) (by omega) (by omega) (by omega)).mono ?_;rintro e wqa ⟨rfl,nqa,rfl⟩;simp only [Int.toNat_zero,Nat.add_zero];go_wp2_with fail
     refine (fail_c D bp A C (D.n) 1 _ (by exact hL4.out.ps.drewN _)).mono ?_;rintro e w8 ⟨rfl,hpx,hkx⟩;have hL5:=qqh (LW.call (hL4.out.drewN _) hpx hkx);clear hpx hkx;have o0:=hL5.out.out.cell 0 rfl;have o1:=hL5.out.out.cell 1 rfl;have o2:=hL5.out.out.cell 2 rfl;have o3:=hL5.out.out.cell 3 rfl;have b0:=hL5.out.res.cell 0 rfl;have b1:=hL5.out.res.cell 1 rfl;have b2:=hL5.out.res.cell 2 rfl;have b3:=hL5.out.res.cell 3 rfl;have r0:=hL5.out.res.free 0;have r1:=hL5.out.res.free 1;have r2:=hL5.out.res.free 2;have r3:=hL5.out.res.free 3;go_wp2_with fail
     have HA':Hid (∀ a:Addr,A=some a->a.block ≠ w.heap.size):=fun a ha => Nat.ne_of_lt (HA.out a ha)
     refine bodyPost_ret (v:=.agg #[.int .i64 9,.string ⟨#[]⟩,.slice sa sl sc,.slice none 0 0]) (by simp [results,Tryz.results49,go_sem,b0,b1,b2,b3]) rfl ⟨⟨_,rfl,?_⟩,?_,?_⟩
     ·exact (by rw [hres.out];exact ⟨_,_,_,_,rfl,⟨_,_,_,rfl⟩,⟨_,_,_,rfl⟩⟩)
     ·rw [hres.out];exact PS.other (PS.other (PS.other (PS.other hL5.out.ps (by omega) HA'.out _) (by omega) HA'.out _) (by omega) HA'.out _) (by omega) HA'.out _
     ·exact Kp.setCell (Kp.setCell (Kp.setCell (Kp.setCell hL5.out.kp (.inr (qqr _)) _) (.inr (qqr _)) _) (.inr (qqr _)) _) (.inr (qqr _)) _
    | opn =>
     have hL4:Hid (LW D bp A C w 9 (.slice sa sl sc) n xs w4 D.n 2):=(by have:=hL4.out;rw [hkey] at this;exact this);have hres:Hid (rr=.opn):=(by show _=_;rw [hN.out];exact tab_kopn hkey);rw [hkey] at hko;obtain ⟨ka,kl,kc,rfl⟩:IsSl v6:=hko;have hz0:=D.out D.n (qqr _);have e61:((D.c D.n:Int) != 61)=true:=(by rw [bne_iff_ne];omega);clear hkey hz0;go_wp2_with fail
     refine (peek_c D bp A C D.n 2 0 _ (by exact hL4.out.ps) (by omega) (by omega) (by omega)).mono ?_;rintro e wqa ⟨rfl,nqa,rfl⟩;simp only [Int.toNat_zero,Nat.add_zero];go_wp2_with fail
     refine (fail_c D bp A C (D.n) 2 _ (by exact hL4.out.ps.drewN _)).mono ?_;rintro e w8 ⟨rfl,hpx,hkx⟩;have hL5:=qqh (LW.call (hL4.out.drewN _) hpx hkx);clear hpx hkx;have o0:=hL5.out.out.cell 0 rfl;have o1:=hL5.out.out.cell 1 rfl;have o2:=hL5.out.out.cell 2 rfl;have o3:=hL5.out.out.cell 3 rfl;have b0:=hL5.out.res.cell 0 rfl;have b1:=hL5.out.res.cell 1 rfl;have b2:=hL5.out.res.cell 2 rfl;have b3:=hL5.out.res.cell 3 rfl;have r0:=hL5.out.res.free 0;have r1:=hL5.out.res.free 1;have r2:=hL5.out.res.free 2;have r3:=hL5.out.res.free 3;go_wp2_with fail
     have HA':Hid (∀ a:Addr,A=some a->a.block ≠ w.heap.size):=fun a ha => Nat.ne_of_lt (HA.out a ha)
     refine bodyPost_ret (v:=.agg #[.int .i64 9,.string ⟨#[]⟩,.slice sa sl sc,.slice none 0 0]) (by simp [results,Tryz.results49,go_sem,b0,b1,b2,b3]) rfl ⟨⟨_,rfl,?_⟩,?_,?_⟩
     ·exact (by rw [hres.out];exact ⟨_,_,_,_,rfl,⟨_,_,_,rfl⟩,⟨_,_,_,rfl⟩⟩)
     ·rw [hres.out];exact PS.other (PS.other (PS.other (PS.other hL5.out.ps (by omega) HA'.out _) (by omega) HA'.out _) (by omega) HA'.out _) (by omega) HA'.out _
     ·exact Kp.setCell (Kp.setCell (Kp.setCell (Kp.setCell hL5.out.kp (.inr (qqr _)) _) (.inr (qqr _)) _) (.inr (qqr _)) _) (.inr (qqr _)) _
   ·have est:(((st:Nat):Int) == 0)=false:=qqn (by omega);have o0:=hL.out.out.cell 0 rfl;have o1:=hL.out.out.cell 1 rfl;have o2:=hL.out.out.cell 2 rfl;have o3:=hL.out.out.cell 3 rfl;have b0:=hL.out.res.cell 0 rfl;have b1:=hL.out.res.cell 1 rfl;have b2:=hL.out.res.cell 2 rfl;have b3:=hL.out.res.cell 3 rfl;have r0:=hL.out.res.free 0;have r1:=hL.out.res.free 1;have r2:=hL.out.res.free 2;have r3:=hL.out.res.free 3;have HE:=qqh hend;clear hend;go_wp2_with fail
    have HA':Hid (∀ a:Addr,A=some a->a.block ≠ w.heap.size):=fun a ha => Nat.ne_of_lt (HA.out a ha)
    refine bodyPost_ret (v:=.agg #[.int .i64 9,.string ⟨#[]⟩,.slice sa sl sc,.slice none 0 0]) (by simp [results,Tryz.results49,go_sem,b0,b1,b2,b3]) rfl ⟨⟨_,rfl,?_⟩,?_,?_⟩
    ·exact HE.out.node ⟨_,_,_,_,rfl,⟨_,_,_,rfl⟩,⟨_,_,_,rfl⟩⟩
    ·rw [HE.out.pos,HE.out.st];exact PS.other (PS.other (PS.other (PS.other hL.out.ps (by omega) HA'.out _) (by omega) HA'.out _) (by omega) HA'.out _) (by omega) HA'.out _
    ·exact Kp.setCell (Kp.setCell (Kp.setCell (Kp.setCell hL.out.kp (.inr (qqr _)) _) (.inr (qqr _)) _) (.inr (qqr _)) _) (.inr (qqr _)) _
theorem info45z:(Tryz.prog.info? 45).map (fun i => (i.zero,i.size,i.bytes))=some (some (.agg #[.int .i64 0,.slice none 0 0,.int .i64 0,.string ⟨#[]⟩,.slice none 0 0,.slice none 0 0]),6,104):=by kernel_rfl
theorem T26:ElemT 26 45 6 104:=by
 obtain ⟨i,hi,h0,h1,h2⟩:=info_parts info45z;exact ⟨Tryz.underlying26,⟨i,_,hi,h0,h1,h2,rfl⟩,by decide⟩
def RepX (w:World) (base:Nat) (S:Nat->Prop):List Ex->List Value->Prop
 | [],xs => xs=[]
 | e :: es,xs => ∃ vk vcs rest,xs=.int .i64 (e.kind:Nat) :: vk :: (vcs++rest)/\OwnS w base vk e.keys/\(∀ g,vk.ownBlock=some g->S g)/\RepT w base S e.val vcs/\RepX w base S es rest
theorem RepX.leave {w w':World} {base base':Nat} {S S':Nat->Prop} (hS:∀ b,S b->base<=b->S' b/\(b<w.heap.size->w'.heap[b]?=w.heap[b]?)) (hb:base'<=base):∀ (es:List Ex) (xs:List Value),RepX w base S es xs->RepX w' base' S' es xs
 | [],_,h => h
 | e :: es,xs,h => by
  obtain ⟨vk,vcs,rest,hx,h4,h5,h6,h7⟩:=h;refine ⟨vk,vcs,rest,hx,?_,fun g hg => (hS g (h5 g hg) (World.ownsRow.lt h4 g hg).1).1,RepT.leave hS hb _ _ h6,RepX.leave hS hb es rest h7⟩;refine own_mono (base:=base) ⟨h4.1,?_⟩ hb;rcases h4.2 with hn | ⟨g,cap,cur,rfl,hb',hg,r⟩
  ·exact .inl hn
  ·exact .inr ⟨g,cap,cur,rfl,hb',by rw [(hS g (h5 g rfl) hb').2 (Array.getElem?_eq_some_iff.1 hg).1];exact hg,r⟩
theorem RepX.append {w:World} {base:Nat} {S:Nat->Prop}:∀ (es fs:List Ex) (xs ys:List Value),RepX w base S es xs->RepX w base S fs ys->RepX w base S (es++fs) (xs++ys)
 | [],fs,xs,ys,h,h' => by have h:xs=[]:=h;subst h;exact h'
 | e :: es,fs,xs,ys,h,h' => by
  obtain ⟨vk,vcs,rest,rfl,h4,h5,h6,h7⟩:=h;exact ⟨vk,vcs,rest++ys,by simp,h4,h5,h6,RepX.append es fs rest ys h7 h'⟩
theorem RepX.there {w:World} {base:Nat} {S:Nat->Prop}:∀ (es:List Ex) (xs:List Value),RepX w base S es xs->RepX w base (fun b => S b/\b<w.heap.size) es xs
 | [],_,h => h
 | e :: es,xs,h => by
  obtain ⟨vk,vcs,rest,hx,h4,h5,h6,h7⟩:=h;exact ⟨vk,vcs,rest,hx,h4,fun g hg => ⟨h5 g hg,(World.ownsRow.lt h4 g hg).2⟩,RepT.there _ _ h6,RepX.there es rest h7⟩
theorem RepX.length {w:World} {base:Nat} {S:Nat->Prop}:∀ (es:List Ex) (xs:List Value),RepX w base S es xs->xs.length=es.length * 6
 | [],xs,h => by have h:xs=[]:=h;subst h;rfl
 | e :: es,xs,h => by
  obtain ⟨vk,vcs,rest,rfl,h4,h5,h6,h7⟩:=h;have:=RepX.length es rest h7;have:=h6.length;simp;omega
theorem RepX.one {w:World} {base:Nat} {S:Nat->Prop} {e:Ex} {vk:Value} {vcs:List Value} (h4:OwnS w base vk e.keys) (h5:∀ g,vk.ownBlock=some g->S g) (h6:RepT w base S e.val vcs) :
  RepX w base S [e] (.int .i64 (e.kind:Nat) :: vk :: vcs):=⟨vk,vcs,[],by simp,h4,h5,h6,rfl⟩
structure EW (D:Doc) (A:Option Addr) (C:Nat) (w0:World) (v:Value) (n:Nat) (xs:List Value) (w:World) (at_ st:Nat):Prop where
 ps:PS D w0.heap.size A C w at_ st
 kp:Kp Nil w0 w
 own:w.ownsRow (w0.heap.size+1) 45 6 v n xs
 ltA:∀ a,A=some a->a.block<w0.heap.size
variable {D:Doc} {A:Option Addr} {C:Nat} {w0 w w':World} {v:Value} {n:Nat} {xs:List Value} {at_ st:Nat}
theorem EW.drewN (h:EW D A C w0 v n xs w at_ st) (m:Nat):EW D A C w0 v n xs (w.drewN m) at_ st:=⟨h.ps.drewN m,h.kp.drewN m,h.own,h.ltA⟩
theorem EW.drew (h:EW D A C w0 v n xs w at_ st):EW D A C w0 v n xs w.drew at_ st:=⟨h.ps.drew,h.kp.drew,h.own,h.ltA⟩
theorem EW.alloc (h:EW D A C w0 v n xs w at_ st) (o:Obj):EW D A C w0 v n xs (w.alloc o) at_ st:=⟨h.ps.alloc o,h.kp.alloc o,own_alloc h.own o,h.ltA⟩
theorem EW.call {at' st':Nat} (h:EW D A C w0 v n xs w at_ st) (hp:PS D w0.heap.size A C w' at' st') (hk:Kp (Only w0.heap.size) w w'):EW D A C w0 v n xs w' at' st' :=
 ⟨hp,h.kp.then hk (fun i hi => .inr (qql hi.symm)),own_kp h.own hk (fun g hg hS => by have h1:=h.own.lt g hg;have h2:g=w0.heap.size:=hS;omega),h.ltA⟩
theorem EW.setAt (h:EW D A C w0 v n xs w at_ st) (k:Int) (k':Nat) (e:k=(k':Int)):EW D A C w0 v n xs (w.setCell ⟨w0.heap.size,1,none⟩ (.int .i64 k)) k' st :=
 h.call (h.ps.setAt k k' e) ((Kp.refl _ _).putOnly _)
theorem EW.put (h:EW D A C w0 v n xs w at_ st) {b i:Nat} (hb:w0.heap.size<b) (ho:v.ownBlock ≠ some b) (u:Value):EW D A C w0 v n xs (w.setCell ⟨b,i,none⟩ u) at_ st :=
 ⟨h.ps.kp ((Kp.refl (Only b) w).putOnly u) (fun e => by have e:w0.heap.size=b:=e;omega) (fun a ha e => by have:=h.ltA a ha;have e:a.block=b:=e;omega),
  h.kp.then ((Kp.refl (Only b) w).putOnly u) (fun i hi => .inr (by have hi:i=b:=hi;omega)),
  own_kp h.own ((Kp.refl (Only b) w).putOnly (i:=i) u) (fun g hg e => by have e:g=b:=e;subst e;exact ho hg),h.ltA⟩
theorem EW.grown {v':Value} {n':Nat} {ys:List Value} (h:EW D A C w0 v n xs w at_ st) (hg:w.grownBy w' v.ownBlock) (ho:w'.ownsRow (w0.heap.size+1) 45 6 v' n' ys):EW D A C w0 v' n' ys w' at_ st:=by
 have hb:∀ k,some k=v.ownBlock->w0.heap.size+1<=k:=fun k hk => (h.own.lt k hk.symm).1
 have hk:Kp (fun k => some k=v.ownBlock) w w':=Kp.ofGrown hg;exact ⟨h.ps.kp hk (fun e => by have:=hb _ e;omega) (fun a ha e => by have:=hb a.block e;have:=h.ltA a ha;omega),
  h.kp.grown hg (fun k hk => .inr (by have:=hb k hk.symm;omega)),ho,h.ltA⟩
theorem RepX.call {es:List Ex} (hr:RepX w (w0.heap.size+1) (fun b => v.ownBlock ≠ some b) es xs) (hk:Kp (Only w0.heap.size) w w'):RepX w' (w0.heap.size+1) (fun b => v.ownBlock ≠ some b) es xs :=
 RepX.leave (fun b h1 h2 => ⟨h1,fun hl => hk.block b hl (fun e => by have e:b=w0.heap.size:=e;omega)⟩) (qqr _) es xs hr
theorem RepX.same {base:Nat} {S:Nat->Prop} {es:List Ex} (h:RepX w base S es xs) (hw:w'.heap=w.heap):RepX w' base S es xs :=
 RepX.leave (fun b h _ => ⟨h,fun _ => by rw [hw]⟩) (qqr _) es xs h
theorem RepX.alloc {base:Nat} {S:Nat->Prop} {es:List Ex} (h:RepX w base S es xs) (o:Obj):RepX (w.alloc o) base S es xs :=
 RepX.leave (fun b h _ => ⟨h,fun hl => Below.heap_alloc _ _ _ hl⟩) (qqr _) es xs h
theorem RepX.grown {v':Value} {n':Nat} {es:List Ex} {e:Ex} {ys:List Value} {vk:Value} {vcs:List Value} (hg:w.grownBy w' v.ownBlock) (ho:w'.ownsRow (w0.heap.size+1) 45 6 v' n' ys) (hnew:Fresh w v v')
  (hr:RepX w (w0.heap.size+1) (fun b => v.ownBlock ≠ some b) es xs) (h4:OwnS w (w0.heap.size+1) vk e.keys) (h5:∀ g,vk.ownBlock=some g->v.ownBlock ≠ some g) (h6:RepT w (w0.heap.size+1) (fun b => v.ownBlock ≠ some b) e.val vcs) :
  RepX w' (w0.heap.size+1) (fun b => v'.ownBlock ≠ some b) (es++[e]) (xs++(.int .i64 (e.kind:Nat) :: vk :: vcs)):=by
 refine RepX.leave (w:=w) (base:=w0.heap.size+1) (S:=fun b => v.ownBlock ≠ some b/\b<w.heap.size) ?_ (qqr _) _ _ (RepX.there _ _ (RepX.append es [e] xs _ hr (RepX.one h4 h5 h6)));intro b ⟨hb1,hb2⟩ hb3;refine ⟨fun e => ?_,fun hl => hg.block b hl (fun e => hb1 e.symm)⟩;rcases hnew with hn | hn
 ·exact hb1 (hn ▸ e)
 ·have:=hn b e;omega
structure EB (D:Doc) (A:Option Addr) (C:Nat) (w0:World) (v:Value) (n:Nat) (xs:List Value) (es:List Ex) (B:Nat) (cs:List Value) (w:World) (at_ st:Nat):Prop where
 ew:EW D A C w0 v n xs w at_ st
 blk:Blk w B cs 45
 rep:RepX w (w0.heap.size+1) (fun b => v.ownBlock ≠ some b/\b<B) es xs
 lt:w0.heap.size<B
 ne:v.ownBlock ≠ some B
variable {es:List Ex} {B:Nat} {cs:List Value}
theorem EB.start (h:EW D A C w0 v n xs w at_ st) (hr:RepX w (w0.heap.size+1) (fun b => v.ownBlock ≠ some b) es xs) (cs:List Value) (hB:B=w.heap.size):EB D A C w0 v n xs es B cs (w.alloc (.cells cs.toArray 45)) at_ st:=by
 subst hB;exact ⟨h.alloc _,Blk.new w cs 45,RepX.alloc (RepX.there _ _ hr) _,h.ps.blk.lt,fun e => by have:=(h.own.lt _ e).2;omega⟩
theorem EB.drewN (h:EB D A C w0 v n xs es B cs w at_ st) (m:Nat):EB D A C w0 v n xs es B cs (w.drewN m) at_ st:=⟨h.ew.drewN m,h.blk,RepX.same h.rep rfl,h.lt,h.ne⟩
theorem EB.drew (h:EB D A C w0 v n xs es B cs w at_ st):EB D A C w0 v n xs es B cs w.drew at_ st:=⟨h.ew.drew,h.blk,RepX.same h.rep rfl,h.lt,h.ne⟩
theorem EB.call {at' st':Nat} (h:EB D A C w0 v n xs es B cs w at_ st) (hp:PS D w0.heap.size A C w' at' st') (hk:Kp (Only w0.heap.size) w w'):EB D A C w0 v n xs es B cs w' at' st' :=
 ⟨h.ew.call hp hk,h.blk.kpOnly hk (by have:=h.lt;omega),RepX.leave (fun b h1 h2 => ⟨h1,fun hl => hk.block b hl (fun e => by have e:b=w0.heap.size:=e;omega)⟩) (qqr _) es xs h.rep,h.lt,h.ne⟩
theorem EB.setAt (h:EB D A C w0 v n xs es B cs w at_ st) (k:Int) (k':Nat) (e:k=(k':Int)):EB D A C w0 v n xs es B cs (w.setCell ⟨w0.heap.size,1,none⟩ (.int .i64 k)) k' st :=
 h.call (h.ew.ps.setAt k k' e) ((Kp.refl _ _).putOnly _)
theorem EB.put (h:EB D A C w0 v n xs es B cs w at_ st) (i:Nat) (u:Value):EB D A C w0 v n xs es B (cs.set i u) (w.setCell ⟨B,i,none⟩ u) at_ st :=
 ⟨h.ew.put h.lt h.ne u,h.blk.put i u,RepX.leave (fun b h1 _ => ⟨h1,fun _ => Below.heap_setCell _ _ _ _ (Nat.ne_of_lt h1.2)⟩) (qqr _) es xs h.rep,h.lt,h.ne⟩
theorem EB.size (h:EB D A C w0 v n xs es B cs w at_ st):B<w.heap.size:=h.blk.lt
theorem EB.putE {cs':List Value} (h:EB D A C w0 v n xs es B cs w at_ st) (i:Nat) (u:Value) (e:cs.set i u=cs'):EB D A C w0 v n xs es B cs' (w.setCell ⟨B,i,none⟩ u) at_ st:=e ▸ h.put i u
theorem EB.base (h:EB D A C w0 v n xs es B cs w at_ st) (o:Obj):w0.heap.size+1<=(w.alloc o).heap.size:=by have:=h.lt;have:=h.size;simp;omega
theorem KeysOk.sl {r:R (List (List UInt8))} {base:Nat} (h:KeysOk r w base v):IsSl v:=by
 cases r with
 | good ks k => exact IsSl.own (h:OwnS w base v ks)
 | bad => exact h
 | opn => exact h
structure EK (D:Doc) (A:Option Addr) (C:Nat) (w0:World) (v:Value) (n:Nat) (xs:List Value) (es:List Ex) (B:Nat) (cs:List Value) (vk:Value) (ks:List (List UInt8)) (w:World) (at_ st:Nat):Prop where
 eb:EB D A C w0 v n xs es B cs w at_ st
 ky:OwnS w (w0.heap.size+1) vk ks
 ne:vk.ownBlock ≠ some B
 nv:∀ g,vk.ownBlock=some g->v.ownBlock ≠ some g
variable {vk:Value} {ks:List (List UInt8)}
theorem EK.drewN (h:EK D A C w0 v n xs es B cs vk ks w at_ st) (m:Nat):EK D A C w0 v n xs es B cs vk ks (w.drewN m) at_ st:=⟨h.eb.drewN m,h.ky,h.ne,h.nv⟩
theorem EK.call {at' st':Nat} (h:EK D A C w0 v n xs es B cs vk ks w at_ st) (hp:PS D w0.heap.size A C w' at' st') (hk:Kp (Only w0.heap.size) w w'):EK D A C w0 v n xs es B cs vk ks w' at' st' :=
 ⟨h.eb.call hp hk,own_kp h.ky hk (fun g hg hS => by have h1:=World.ownsRow.lt h.ky g hg;have h2:g=w0.heap.size:=hS;omega),h.ne,h.nv⟩
theorem EK.setAt (h:EK D A C w0 v n xs es B cs vk ks w at_ st) (k:Int) (k':Nat) (e:k=(k':Int)):EK D A C w0 v n xs es B cs vk ks (w.setCell ⟨w0.heap.size,1,none⟩ (.int .i64 k)) k' st :=
 h.call (h.eb.ew.ps.setAt k k' e) ((Kp.refl _ _).putOnly _)
theorem EK.putE {cs':List Value} (h:EK D A C w0 v n xs es B cs vk ks w at_ st) (i:Nat) (u:Value) (e:cs.set i u=cs'):EK D A C w0 v n xs es B cs' vk ks (w.setCell ⟨B,i,none⟩ u) at_ st :=
 ⟨h.eb.putE i u e,own_kp h.ky ((Kp.refl (Only B) w).putOnly (i:=i) u) (fun g hg hS => by have hS:g=B:=hS;subst hS;exact h.ne hg),h.ne,h.nv⟩
theorem EK.grown {v':Value} {n':Nat} {e:Ex} {ys vcs:List Value} (h:EK D A C w0 v n xs es B cs vk ks w at_ st) (hk:e.keys=ks) (ht:RepT w (w0.heap.size+1) (fun b => v.ownBlock ≠ some b) e.val vcs) (o:Obj)
  (hg:(w.alloc o).grownBy w' v.ownBlock) (ho:w'.ownsRow (w0.heap.size+1) 45 6 v' n' ys) (hnew:Fresh (w.alloc o) v v') :
  RepX w' (w0.heap.size+1) (fun b => v'.ownBlock ≠ some b) (es++[e]) (xs++(.int .i64 (e.kind:Nat) :: vk :: vcs)):=by
 refine RepX.grown (w:=w.alloc o) hg ho hnew (RepX.alloc (RepX.leave (fun b h1 _ => ⟨h1.1,fun _ => rfl⟩) (qqr _) es xs h.eb.rep) o) ?_ h.nv ?_
 ·rw [hk];exact own_alloc h.ky o
 ·exact RepT.leave (fun b h1 _ => ⟨h1,fun hl => Below.heap_alloc _ _ _ hl⟩) (qqr _) _ _ ht
end Go.Proofs.YtpgmddjgcgpoeaaGreat
