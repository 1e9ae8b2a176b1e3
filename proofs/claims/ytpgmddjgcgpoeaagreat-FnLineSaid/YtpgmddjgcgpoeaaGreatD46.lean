/-
  A part of the proof.
-/
import Derived.Test.YtpgmddjgcgpoeaaGreatD45
import Derived.Test.YtpgmddjgcgpoeaaGreatD42
import Derived.Test.YtpgmddjgcgpoeaaGreatD43
set_option linter.unusedVariables false
set_option linter.unusedSimpArgs false
set_option maxRecDepth 100000
set_option maxHeartbeats 8000000
namespace Go.Proofs.YtpgmddjgcgpoeaaGreat
open Go.RowKit
theorem setCells_kp (g:Nat):∀ (vs:List Value) (o:Nat) (w:World),Kp (Only g) w (w.setCells g o vs)
 | [],_,_ => Kp.refl _ _
 | v :: vs,o,_ => Kp.trans (Kp.putOnly (Kp.refl _ _) v) (setCells_kp g vs (o+1) _)
theorem wpList_appBR {w:World} {ops:Array Oper} {rest:List Oper} {o:Oper} {a:Act} {Q:Exit->Act->World->Prop} (hgd:o.guard=none) (sl x:Operand)
  (ho:o.op=.call { callee:=.builtin .append,args:=#[sl,x],argTypes:=#[22,22] })
  (base:Nat) (v:Value) (l s:List UInt8) (hs:a.eval sl=v) (hb:BR w base v l) (b off c:Nat) (hx:a.eval x=.slice (some ⟨b,off,none⟩) s.length c)
  (hc:∀ j u,(bcells s)[j]?=some u->w.cell? ⟨b,off+j,none⟩=some u) (hle:l.length+s.length<=4294967296) (hbase:base<=w.heap.size)
  (h:∀ v' w',BR w' base v' (l++s)->Kp (fun k => some k=v.ownBlock) w w'->wpList Tryz.prog ops Q rest (a.put o.dst v') w'):wpList Tryz.prog ops Q (o :: rest) a w:=by
 obtain ⟨i,hi,hz0,hz1,hz2⟩:=info_parts info5a;obtain ⟨g,cap,rfl,hbg,h1,h2,hlt,hcc,hf⟩:=hb;refine wpList_append_arg w hgd sl x 22 ho 5 i (.int .u8 0) 1 1 Tryz.underlying22 hi hz0 hz1 hz2 rfl (by decide) g 0 l.length cap (bcells l) hs (by rw [bcells_length];omega) (fun j u hu => by rw [Nat.zero_add];exact hcc j u hu) ⟨b,off,none⟩ s.length c (bcells s) hx (by rw [bcells_length];omega) (fun j u hu => by rw [Addr.add_lit];exact hc j u hu) (bcells_one s) ?_ (by unfold maxLen;omega) (by omega) ?_ ?_
 ·intro hr j hj;rw [bcells_length] at hj;rw [show 0+l.length * 1+j=l.length+j by omega];exact hf _ (by omega)
 ·intro hr;rw [show 0+l.length * 1=l.length by omega];have hk:=setCells_kp g (bcells s) l.length w;refine h _ _ ⟨g,cap,by rw [qqa],hbg,by rw [qqa];exact hr,h2,Nat.lt_of_lt_of_le hlt hk.size,fun j u hu => ?_,fun j hj => ⟨?_,?_⟩⟩ (Kp.mono hk (fun k (e:k=g) => by rw [e];rfl))
  ·rw [bcells_append] at hu;by_cases hjl:j<l.length
   ·rw [List.getElem?_append_left (by rw [bcells_length];exact hjl)] at hu;rw [World.cell?_setCells_out _ _ _ _ _ (fun _ _ => .inl hjl)];exact hcc j u hu
   ·rw [List.getElem?_append_right (by rw [bcells_length];omega),bcells_length] at hu;have hj2:j - l.length<(bcells s).length:=(List.getElem?_eq_some_iff.1 hu).1;have:=World.cell?_setCells_in g (bcells s) l.length w (fun i hi => (hf _ (by rw [bcells_length] at hi;omega)).1) (j - l.length) hj2;rw [show l.length+(j - l.length)=j by omega] at this;rw [this,<- hu,List.getElem?_eq_getElem hj2]
  ·by_cases hin:l.length<=j/\j<l.length+s.length
   ·have:=World.cell?_setCells_in g (bcells s) l.length w (fun i hi => (hf _ (by rw [bcells_length] at hi;omega)).1) (j - l.length) (by rw [bcells_length];omega);rw [show l.length+(j - l.length)=j by omega] at this;rw [this];rfl
   ·rw [World.cell?_setCells_out _ _ _ _ _ (fun _ _ => by rw [bcells_length];show j<_\/_<=j;omega)];exact (hf j hj).1
  ·rw [World.frozen?_setCells];exact (hf j hj).2
 ·intro hr v' w' hown hg;refine h v' w' ?_ (Kp.mono (Kp.ofGrown hg) (fun k (e:some k=none) => by cases e));have hO:OwnB w' w.heap.size v' (l++s):=by
   unfold OwnB;rw [qqa,bcells_append];exact hown
  exact (hO.br (by rw [qqa];omega)).mono hbase
theorem wpList_app0 {w:World} {ops:Array Oper} {rest:List Oper} {o:Oper} {a:Act} {Q:Exit->Act->World->Prop} (hgd:o.guard=none) (sl x:Operand)
  (ho:o.op=.call { callee:=.builtin .append,args:=#[sl,x],argTypes:=#[22,22] })
  (b n cap:Nat) (hs:a.eval sl=.slice (some ⟨b,0,none⟩) n cap) (A:Option Addr) (m C:Nat) (hx:a.eval x=.slice A m C) (hm:m=0) (hcap:n<=cap)
  (h:wpList Tryz.prog ops Q rest (a.put o.dst (.slice (some ⟨b,0,none⟩) n cap)) w):wpList Tryz.prog ops Q (o :: rest) a w:=by
 subst hm;obtain ⟨i,hi,hz0,hz1,hz2⟩:=info_parts info5a;have hsrc:Src Tryz.prog i.size 22 (.slice A 0 C) 0 [] w:=by
  cases A with
  | none => exact Src.ofNil w Tryz.underlying22 C
  | some ad => exact Src.ofSlice w Tryz.underlying22 ad 0 C [] (by simp) (fun j u hu => by simp at hu) (fun u hu => by cases hu)
 refine wpList_plain hgd fun K hK' => ?_
 have hrun:=run_append_room_src (P:=Tryz.prog) w 22 22 o.type 5 i Tryz.underlying22 hi b 0 n cap (.slice A 0 C) 0 [] hsrc hcap (fun j hj => by simp at hj) (fun j hj => by simp at hj);unfold Oper.wp;simp [execOp,ho,resolve,invoke,builtin,hs,hx,hrun,Result.andThen];exact hK' _ _ h
theorem wpList_appM {w:World} {ops:Array Oper} {rest:List Oper} {o:Oper} {a:Act} {Q:Exit->Act->World->Prop} (hgd:o.guard=none) (sl x:Operand)
  (ho:o.op=.call { callee:=.builtin .append,args:=#[sl,x],argTypes:=#[22,22] })
  (base:Nat) (v:Value) (l s:List UInt8) (hs:a.eval sl=v) (hown:OwnB w base v l) (b off m c:Nat) (hx:a.eval x=.slice (some ⟨b,off,none⟩) m c) (hm:m=s.length)
  (hc:∀ j u,(bcells s)[j]?=some u->w.cell? ⟨b,off+j,none⟩=some u) (hle:l.length+s.length<=4294967296) (hbase:base<=w.heap.size)
  (h:∀ v' w',OwnB w' base v' (l++s)->w.grownBy w' v.ownBlock->wpList Tryz.prog ops Q rest (a.put o.dst v') w'):wpList Tryz.prog ops Q (o :: rest) a w:=by
 subst hm;obtain ⟨i,hi,hz0,hz1,hz2⟩:=info_parts info5a;refine wpList_append_own w hgd sl x 22 ho base 5 i (.int .u8 0) 1 1 Tryz.underlying22 hi hz0 hz1 hz2 rfl (by decide) v l.length (bcells l) hs hown ⟨b,off,none⟩ s.length c (bcells s) hx (by rw [bcells_length];omega) (fun j u hu => by rw [Addr.add_lit];exact hc j u hu) (bcells_one s) (by unfold maxLen;omega) (by omega) hbase ?_;intro v' w' h1 h2 _;refine h v' w' ?_ h2;unfold OwnB;rw [qqa,bcells_append];exact h1
theorem fline_big (NA A LA:Option Addr) (nn NC cn C ln LC:Nat) (bh:Bool) (w:World) (h:100<nn\/1000<cn\/200<ln) :
  Calls Tryz.prog 4 #[.slice NA nn NC,.slice A cn C,.slice LA ln LC,.bool bh] w fun e w' => e=.returned (.bool true)/\Kp Nil w w':=by
 go_enter Tryz.func4,Tryz.ntmps4;go_upto_region 5 with fail
 all_goals first
  | (exfalso;omega)
  | (go_ret;exact ⟨rfl,Kp.refl _ _⟩)
theorem fline_c (D DL:Doc) (NA A LA:Option Addr) (nn NC C LC:Nat) (bh:Bool) (w:World) (hN:NumIn w NA nn) (hn:nn<=100) (hd:DocAt D A C w) (hA:∀ a,A=some a->a.block<w.heap.size) (hD:D.n<=1000) (hl:DocAt DL LA LC w) (hL:DL.n<=200) :
  Calls Tryz.prog 4 #[.slice NA nn NC,.slice A D.n C,.slice LA DL.n LC,.bool bh] w fun e w' => e=.returned (.bool true)/\Kp Nil w w':=by
 have h1:(nn:Int)<=100:=by omega
 have h2:(D.n:Int)<=1000:=by omega
 have h3:(DL.n:Int)<=200:=by omega
 have HD:=qqh hd;have HL:=qqh hl;have HN:=qqh hN;clear hd hl hN;go_enter Tryz.func4,Tryz.ntmps4;go_wp2_with fail
 go_loopw [41] (fun y wr => ∃ (j m:Nat),y=.int .i64 j/\j<=DL.n/\wr=w.drewN m) (fun y _ => DL.n - (intOf y).toNat)
 case atStart => exact ⟨0,0,rfl,by omega,rfl⟩
 case round =>
  obtain ⟨j,m,rfl,hj,rfl⟩:=hrel;by_cases hjl:j<DL.n
  ·have hj1:(j:Int)<DL.n:=(by omega);obtain ⟨_,_,h0 | ⟨bd,o,rfl,_,hc⟩⟩:=HL.out
   ·omega
   have hcj:=hc j hjl;obtain ⟨c,hcc⟩:∃ c,((DL.c j:Int) == 10)=c:=⟨_,rfl⟩;go_wp2_with fail
   ·go_ret;exact ⟨rfl,(Kp.refl _ _).drewN _⟩
   ·exact ⟨⟨j+1,m,by go_num,by omega,rfl⟩,by simp [intOf];omega⟩
  ·have hj1:¬ ((j:Int)<DL.n):=(by omega);go_upto_region 12 with (first
    | (go_at_call 8;refine (document_c NA nn NC (w.drewN m) HN.out).mono ?_;rintro e1 wA ⟨dv,rfl,hdv,hkA⟩;obtain ⟨da,dn,dc,rfl,_⟩:=id hdv;have HDV:=qqh hdv;have HKA:Hid (Kp Nil w wA):=Kp.trans ((Kp.refl _ _).drewN m) hkA;clear hdv hkA)
    | (go_at_call 7;refine (write_c D A C _ _ _ (HD.out.kp HKA.out (fun _ _ h => h)) (fun a ha => Nat.lt_of_lt_of_le (hA a ha) HKA.out.size) hD HDV.out (fun b hb => hb.2)).mono ?_;rintro e2 wB ⟨bv,lb,rfl,hlb,hB,hkB⟩;obtain ⟨g,cap,rfl,hg0,hcap⟩:=id hB.br;have HB:=qqh (hB.br.mono HKA.out.size);have HKB:=qqh (Kp.trans HKA.out hkB);have hgB:g<wB.heap.size:=hcap.2.2.1;clear hB hkB hcap))
   rcases Nat.eq_zero_or_pos DL.n with hn0 | hn0
   case' inl =>
    have HN0:=qqh hn0;clear hn0;go_upto_region 13 with (first
     | (at_builtin;refine wpList_app0 rfl _ _ rfl wB.heap.size 0 0 rfl LA DL.n LC rfl HN0.out (qqr _) ?_)
     | (at_builtin;refine wpList_appM rfl _ _ rfl wB.heap.size (.slice (some ⟨wB.heap.size,0,none⟩) 0 0) [] [10] rfl (by exact own_alloc (own_made rfl (qqr _)) _) (wB.heap.size+1) 0 1 _ rfl rfl (fun j u hu => by change (World.alloc _ _).cell? ⟨(wB.heap.size+1),0+j,none⟩=some u;rw [Nat.zero_add,wcellN (by simp)];simpa [bcells] using hu) (by simp) (by simp;omega) ?_;intro vL w5 hown5 hg5;have hk5:Kp Nil wB w5:=Kp.grown (((Kp.refl _ _).alloc _).alloc _) hg5 (fun k e => .inr (by simp [Value.ownBlock] at e;omega));have HB5:=qqh (HB.out.kp hk5 (fun _ _ h => h));have HK5:=qqh (Kp.trans HKB.out hk5);clear hk5;obtain ⟨lL,hlL⟩:∃ l,(([]:List UInt8)++[10])=l:=⟨_,rfl⟩;have hLn:lL.length<=201:=(by rw [<- hlL];decide);have hLp:0<lL.length:=(by rw [<- hlL];simp);rw [hlL] at hown5;have HLr:=qqh (hown5.br hLp);obtain ⟨gl,capl,rfl,hgl,hll⟩:=id HLr.out;clear hown5 hg5 hll hlL))
   case' inr =>
    obtain ⟨_,_,h0 | ⟨bd,o,rfl,_,hc⟩⟩:=HL.out
    ·omega
    have hcB:=DocAt.cells (w:=wB) (fun i hi => cell_kp (hc i hi) HKB.out (fun h => h));go_upto_region 13 with (first
     | (at_builtin;refine wpList_appM rfl _ _ rfl wB.heap.size (.slice (some ⟨wB.heap.size,0,none⟩) 0 0) [] DL.bytes rfl (by exact own_made rfl (qqr _)) bd o DL.n LC rfl DL.bytes_len.symm (fun j u hu => Lib.cell?_alloc_some _ (hcB j u hu)) (by rw [DL.bytes_len];simp;omega) (by simp) ?_;intro v4 w4 hown4 hg4;have HO4:Hid (OwnB w4 wB.heap.size v4 DL.bytes):=hown4;have HK4:Hid (Kp Nil wB w4):=Kp.grown ((Kp.refl _ _).alloc _) hg4 (fun k e => .inr (by simp [Value.ownBlock] at e;omega));clear hown4 hg4)
     | (at_builtin;refine wpList_appM rfl _ _ rfl wB.heap.size v4 DL.bytes [10] rfl (by exact own_alloc HO4.out _) w4.heap.size 0 1 _ rfl rfl (fun j u hu => by change (World.alloc _ _).cell? ⟨w4.heap.size,0+j,none⟩=some u;rw [Nat.zero_add,wcellN (by simp)];simpa [bcells] using hu) (by rw [DL.bytes_len];simp;omega) (by have:=HK4.out.size;simp;omega) ?_;intro vL w5 hown5 hg5;have hk5:Kp Nil wB w5:=Kp.grown (HK4.out.alloc _) hg5 (fun k e => .inr (World.ownsRow.lt HO4.out k e).1);have HB5:=qqh (HB.out.kp hk5 (fun _ _ h => h));have HK5:=qqh (Kp.trans HKB.out hk5);clear hk5;obtain ⟨lL,hlL⟩:∃ l,(DL.bytes++[10])=l:=⟨_,rfl⟩;have hLn:lL.length<=201:=(by rw [<- hlL];rw [qqa,DL.bytes_len];simp;omega);have hLp:0<lL.length:=(by rw [<- hlL];simp);rw [hlL] at hown5;have HLr:=qqh (hown5.br hLp);obtain ⟨gl,capl,rfl,hgl,hll⟩:=id HLr.out;clear hown5 hg5 hll hlL))
   all_goals
    cases bh
    ·go_wp2_with (first
      | (at_builtin;refine wpList_appBR rfl _ _ rfl w.heap.size (.slice (some ⟨gl,0,none⟩) lL.length capl) lL lb rfl (by exact HLr.out.mono (Nat.le_trans HKB.out.size (qqr _))) g 0 cap rfl (fun j u hu => by rw [Nat.zero_add];exact HB5.out.at j u hu) (by omega) HK5.out.size ?_;intro v6 w6 hb6 hk6;obtain ⟨D6,A6,C6,rfl,hD6,hd6,hA6⟩:=hb6.doc (by rw [qqa];omega);have H6:=qqh hd6;have hn6:D6.n<=1000000:=(by rw [hD6,qqa];omega);clear hD6;have HK6:Hid (Kp Nil w w6):=Kp.then HK5.out hk6 (fun k e => .inr (by have:=HKB.out.size;simp [Value.ownBlock] at e;omega));clear hb6 hk6 hd6)
      | (go_at_call 6;(with_reducible refine (same_c D6 A6 C6 _ H6.out hA6 hn6).mono ?_);rintro e7 w7 ⟨rfl,hk7⟩;have HK7:=qqh (Kp.trans HK6.out hk7);clear hk7))
     go_ret;exact ⟨rfl,HK7.out⟩
    ·have hwg:w.heap.size<=g:=Nat.le_trans HKA.out.size hg0;obtain ⟨nb,hnb⟩:∃ nb,lb.length=nb:=⟨_,rfl⟩;rw [hnb] at HB5 ⊢;have HNB:=qqh hnb;clear hnb;have HLx:=HLr;have hbl:lb.length<=800000:=hlb;cases nb with
     | zero =>
      go_wp2_with (first
       | (at_builtin;refine wpList_appBR rfl _ _ rfl w.heap.size (.slice (some ⟨g,0,none⟩) 0 cap) lb lL rfl (by exact HB5.out) gl 0 capl rfl (fun j u hu => by rw [Nat.zero_add];exact HLx.out.at j u hu) (by omega) HK5.out.size ?_;intro v6 w6 hb6 hk6;obtain ⟨D6,A6,C6,rfl,hD6,hd6,hA6⟩:=hb6.doc (by rw [qqa];omega);have H6:=qqh hd6;have hn6:D6.n<=1000000:=(by rw [hD6,qqa];omega);clear hD6;have HK6:Hid (Kp Nil w w6):=Kp.then HK5.out hk6 (fun k e => .inr (by simp [Value.ownBlock] at e;omega));clear hb6 hk6 hd6)
       | (go_at_call 6;(with_reducible refine (same_c D6 A6 C6 _ H6.out hA6 hn6).mono ?_);rintro e7 w7 ⟨rfl,hk7⟩;have HK7:=qqh (Kp.trans HK6.out hk7);clear hk7))
      go_ret;exact ⟨rfl,HK7.out⟩
     | succ nb =>
      have hnl:nb<lb.length:=(by have:=HNB.out;omega);have hx:=HB5.out.at nb (.int .u8 (lb[nb].toNat:Int)) (by simp [bcells,hnl]);obtain ⟨x,hxx⟩:∃ x,lb[nb].toNat=x:=⟨_,rfl⟩;rw [hxx] at hx;clear hxx;obtain ⟨c,hc⟩:∃ c,((x:Int) != 10)=c:=⟨_,rfl⟩;cases c
      ·go_wp2_with (first
        | (at_builtin;refine wpList_appBR rfl _ _ rfl w.heap.size (.slice (some ⟨g,0,none⟩) (nb+1) cap) lb lL rfl (by exact HB5.out) gl 0 capl rfl (fun j u hu => by rw [Nat.zero_add];exact HLx.out.at j u hu) (by omega) HK5.out.size ?_;intro v6 w6 hb6 hk6;obtain ⟨D6,A6,C6,rfl,hD6,hd6,hA6⟩:=hb6.doc (by rw [qqa];omega);have H6:=qqh hd6;have hn6:D6.n<=1000000:=(by rw [hD6,qqa];omega);clear hD6;have HK6:Hid (Kp Nil w w6):=Kp.then HK5.out hk6 (fun k e => .inr (by simp [Value.ownBlock] at e;omega));clear hb6 hk6 hd6)
        | (go_at_call 6;(with_reducible refine (same_c D6 A6 C6 _ H6.out hA6 hn6).mono ?_);rintro e7 w7 ⟨rfl,hk7⟩;have HK7:=qqh (Kp.trans HK6.out hk7);clear hk7))
       go_ret;exact ⟨rfl,HK7.out⟩
      ·go_wp2_with (first
        | (at_builtin;refine wpList_appBR rfl _ _ rfl w.heap.size (.slice (some ⟨g,0,none⟩) (nb+1) cap) lb [10] rfl (by exact HB5.out.kp ((Kp.refl Nil _).alloc _) (fun _ _ h => h)) w5.heap.size 0 1 rfl (fun j u hu => by change (World.alloc _ _).cell? ⟨w5.heap.size,0+j,none⟩=some u;rw [Nat.zero_add,wcellN (by simp)];simpa [bcells] using hu) (by simp;omega) (by have:=HK5.out.size;simp;omega) ?_;intro v8 w8 hb8 hk8;obtain ⟨l8,hl8⟩:∃ l,lb++[10]=l:=⟨_,rfl⟩;have hn8:l8.length<=800001:=(by rw [<- hl8,qqa];simp;omega);rw [hl8] at hb8;clear hl8;have HB8:=qqh hb8;obtain ⟨g8,cap8,rfl,hg8,hc8⟩:=id hb8;have HK8:Hid (Kp Nil w w8):=Kp.then (HK5.out.alloc _) hk8 (fun k e => .inr (by simp [Value.ownBlock] at e;omega));have HL8:=qqh (HLr.out.kp (Kp.then ((Kp.refl (fun k => k=g) _).alloc _) hk8 (fun k e => .inl (by simp [Value.ownBlock] at e;exact e))) (fun q e (x:q=g) => by simp [Value.ownBlock] at e;omega));clear hb8 hk8 hc8)
        | (at_builtin;refine wpList_appBR rfl _ _ rfl w.heap.size (.slice (some ⟨g8,0,none⟩) l8.length cap8) l8 lL rfl (by exact HB8.out) gl 0 capl rfl (fun j u hu => by rw [Nat.zero_add];exact HL8.out.at j u hu) (by omega) HK8.out.size ?_;intro v6 w6 hb6 hk6;obtain ⟨D6,A6,C6,rfl,hD6,hd6,hA6⟩:=hb6.doc (by rw [qqa];omega);have H6:=qqh hd6;have hn6:D6.n<=1000000:=(by rw [hD6,qqa];omega);clear hD6;have HK6:Hid (Kp Nil w w6):=Kp.then HK8.out hk6 (fun k e => .inr (by simp [Value.ownBlock] at e;omega));clear hb6 hk6 hd6)
        | (go_at_call 6;(with_reducible refine (same_c D6 A6 C6 _ H6.out hA6 hn6).mono ?_);rintro e7 w7 ⟨rfl,hk7⟩;have HK7:=qqh (Kp.trans HK6.out hk7);clear hk7))
       go_ret;exact ⟨rfl,HK7.out⟩
end Go.Proofs.YtpgmddjgcgpoeaaGreat
