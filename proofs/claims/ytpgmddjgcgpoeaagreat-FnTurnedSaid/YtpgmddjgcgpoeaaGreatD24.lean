/-
  A part of the proof.
-/
import Derived.Test.YtpgmddjgcgpoeaaGreatD18
import Derived.Lib.SlBuf
import Derived.Lib.AppendZeros
import Derived.Test.YtpgmddjgcgpoeaaGreatD04
import Derived.Test.YtpgmddjgcgpoeaaGreatD10
import Derived.Deep.DeepCutAuto
import Derived.Deep.RegionLaw
import Derived.Test.YtpgmddjgcgpoeaaGreatD01
set_option linter.unusedVariables false
set_option linter.unusedSimpArgs false
set_option maxRecDepth 100000
set_option maxHeartbeats 8000000
namespace Go.Proofs.YtpgmddjgcgpoeaaGreat
open Go.RowKit
theorem wpList_makeN {P:Program} (w:World) {ops:Array Oper} {rest:List Oper} {o:Oper} {a:Act} {Q:Exit->Act->World->Prop}
  (hg:o.guard=none) (l c:Operand) (t:TypeId) (hop:o.op=Op.makeSlice t l c)
  (base:Nat) (e:TypeId) (i:TypeInfo) (z:Value) (size:Nat) (h1:P.underlying t=some (.slice e)) (h2:P.info? e=some i) (h3:i.zero=some z) (h4:i.size=size)
  (kl kc:IntKind) (L C:Int) (n m:Nat) (hl:a.eval l=.int kl L) (hc:a.eval c=.int kc C) (hL:L=(n:Int)) (hC:C=(m:Int)) (hnm:n<=m) (b2:i.bytes * m<=281474976710656) (b3:m<=maxLen) (b4:base<=w.heap.size)
  (hK:∀ w' xs,w'.ownsRow base e size (.slice (some ⟨w.heap.size,0,none⟩) n m) n xs->w.grownBy w' none->wpList P ops Q rest (a.put o.dst (.slice (some ⟨w.heap.size,0,none⟩) n m)) w') :
  wpList P ops Q (o :: rest) a w:=by
 refine wpList_plain hg fun K hK' => ?_
 subst hL hC h4;have h63:(m:Int)<=9223372036854775807:=by have h:=b3;simp [maxLen] at h;omega
 have hb':(i.bytes:Int) * (m:Int)<=281474976710656:=by
  have h:((i.bytes * m:Nat):Int)<=281474976710656:=by omega
  rwa [Int.natCast_mul] at h
 have hrun:=run_make (P:=P) w t e i z h1 h2 h3 kl kc n m (by omega) (by omega) hb' h63;simp only [Int.toNat_natCast] at hrun;unfold Oper.wp;simp [execOp,hop,hl,hc,hrun,Result.andThen];refine hK' _ _ (hK _ ((madeCells z.cells (m * i.size)).toList.take (n * i.size)) ⟨?_,.inr ⟨w.heap.size,m,_,rfl,b4,heap_alloc_new w _,hnm,b3,size_madeCells _ _,rfl⟩⟩ (World.grownBy_alloc w _ none));rw [List.length_take,Array.length_toList,size_madeCells];exact Nat.min_eq_left (Nat.mul_le_mul_right _ hnm)
theorem own_setCells {base g n cap:Nat} {e:TypeId} {size:Nat}:∀ (vs:List Value) (o:Nat) (w:World) (xs:List Value),w.ownsRow base e size (.slice (some ⟨g,0,none⟩) n cap) n xs->o+vs.length<=xs.length ->
  (w.setCells g o vs).ownsRow base e size (.slice (some ⟨g,0,none⟩) n cap) n (xs.take o++vs++xs.drop (o+vs.length))/\w.grownBy (w.setCells g o vs) (some g):=by
 intro vs
 induction vs with
 | nil => intro o w xs h _;exact ⟨by simpa [World.setCells] using h,World.grownBy.refl _ _⟩
 | cons u vs ih =>
  intro o w xs h hl;simp only [List.length_cons] at hl;obtain ⟨h1,h2⟩:=World.ownsRow.stored h o u;obtain ⟨h3,h4⟩:=ih (o+1) _ _ h1 (by simp;omega);refine ⟨?_,⟨h4.os.trans h2.os,h4.tape.trans h2.tape,h4.output.trans h2.output,Nat.le_trans h2.size h4.size,fun k hk hr => (h4.block k (Nat.lt_of_lt_of_le hk h2.size) hr).trans (h2.block k hk hr)⟩⟩;have e1:(xs.set o u).take (o+1)++vs++(xs.set o u).drop (o+1+vs.length)=xs.take o++u :: vs++xs.drop (o+(u :: vs).length):=by
   rw [List.drop_set_of_lt (by omega),List.take_add_one,List.take_set_of_le (qqr o),List.getElem?_set_self (by omega)];simp;omega
  rw [<- e1];exact h3
theorem own_fill {base g n cap:Nat} {e:TypeId} {size:Nat} {w:World} {xs vs:List Value} (h:w.ownsRow base e size (.slice (some ⟨g,0,none⟩) n cap) n xs) (hl:vs.length=n * size) :
  (w.setCells g 0 vs).ownsRow base e size (.slice (some ⟨g,0,none⟩) n cap) n vs/\w.grownBy (w.setCells g 0 vs) (some g):=by
 have:=own_setCells vs 0 w xs h (by rw [h.1,hl];omega);rw [List.take_zero,List.nil_append,List.drop_eq_nil_of_le (by rw [h.1,hl];omega),List.append_nil] at this;exact this
theorem wpList_copyN {P:Program} (w:World) {ops:Array Oper} {rest:List Oper} {o:Oper} {a:Act} {Q:Exit->Act->World->Prop} (hgd:o.guard=none) (d s:Operand) (t t':TypeId)
  (ho:o.op=.call { callee:=.builtin .copy,args:=#[d,s],argTypes:=#[t,t'] })
  (base:Nat) (e:TypeId) (size:Nat) (hu:P.underlying t=some (.slice e)) (hz:(P.info? e).map (·.size)=some size)
  (g n cap:Nat) (xs vs:List Value) (hd:a.eval d=.slice (some ⟨g,0,none⟩) n cap) (hown:w.ownsRow base e size (.slice (some ⟨g,0,none⟩) n cap) n xs)
  (sa:Option Addr) (sc:Nat) (hs:a.eval s=.slice sa n sc) (hl:vs.length=n * size) (h1:∀ v ∈ vs,v.oneCell'=true)
  (hsrc:vs ≠ []->∃ ad,sa=some ad/\∀ j u,vs[j]?=some u->w.cell? (ad.add j)=some u)
  (h:∀ w',w'.ownsRow base e size (.slice (some ⟨g,0,none⟩) n cap) n vs->w.grownBy w' (some g)->wpList P ops Q rest (a.put o.dst (.int .i64 n)) w'):wpList P ops Q (o :: rest) a w:=by
 obtain ⟨h2,h3⟩:=own_fill hown hl;have hcell:∀ j,j<vs.length->(w.cell? ⟨g,0+0+j,none⟩).isSome=true:=by
  intro j hj;rw [Nat.zero_add,hown.cellAt j (by omega),List.getElem?_eq_getElem (by rw [hown.1];omega)];rfl
 have hst:=run_storeCells_cells (P:=P) g 0 vs 0 w hcell (fun j _ => hown.frozenAt _) h1;have hr:(Builtin.copy_ #[t,t'] o.type #[.slice (some ⟨g,0,none⟩) n cap,.slice sa n sc]).run P w=.ok (.int .i64 n) (w.setCells g 0 vs):=by
  cases hq:P.info? e with
  | none => simp [hq] at hz
  | some i =>
   have hi:i.size=size:=(by simpa [hq] using hz);by_cases hv:vs=[]
   ·subst hv;have hl0:n * size=0:=(by simpa using hl.symm);have hll:∀ (x:Addr),(loadCells x 0).run P w=.ok #[] w:=fun x => by simpa using run_loadCells_list (P:=P) w x [] (by simp)
    cases sa <;> simp [Builtin.copy_,run_underlying hu,Builtin.lenOf,Builtin.firstCells,sizeOf,typeInfo,hq,hi,hl0,storeCells,hll,World.setCells,goInt]
   ·obtain ⟨ad,rfl,hc⟩:=hsrc hv;have hll:=run_loadCells_list (P:=P) w ad vs hc;rw [hl] at hll;simp [Builtin.copy_,run_underlying hu,Builtin.lenOf,Builtin.firstCells,sizeOf,typeInfo,hq,hi,hll,hst,goInt]
 exact Lib.wpList_copy_run w hgd d s t t' ho _ _ hd hs hr (h _ h2 h3)
theorem wpList_makeB (w:World) {ops:Array Oper} {rest:List Oper} {o:Oper} {a:Act} {Q:Exit->Act->World->Prop}
  (hg:o.guard=none) (l c:Operand) (hop:o.op=Op.makeSlice 22 l c) (base:Nat)
  (L C:Int) (n m:Nat) (hl:a.eval l=.int .i64 L) (hc:a.eval c=.int .i64 C) (hL:L=(n:Int)) (hC:C=(m:Int)) (hnm:n<=m) (b2:m<=281474976710656) (b4:base<=w.heap.size)
  (hK:∀ w' xs,w'.ownsRow base 5 1 (.slice (some ⟨w.heap.size,0,none⟩) n m) n xs->w.grownBy w' none->wpList Tryz.prog ops Q rest (a.put o.dst (.slice (some ⟨w.heap.size,0,none⟩) n m)) w') :
  wpList Tryz.prog ops Q (o :: rest) a w:=by
 obtain ⟨i,hi,hz0,hz1,hz2⟩:=info_parts info5;exact wpList_makeN w hg l c 22 hop base 5 i (.int .u8 0) 1 Tryz.underlying22 hi hz0 hz1 .i64 .i64 L C n m hl hc hL hC hnm (by rw [hz2];omega) (by unfold maxLen;omega) b4 hK
theorem info5s:(Tryz.prog.info? 5).map (·.size)=some 1:=by kernel_rfl
theorem wpList_copyB (w:World) {ops:Array Oper} {rest:List Oper} {o:Oper} {a:Act} {Q:Exit->Act->World->Prop} (hgd:o.guard=none) (d s:Operand)
  (ho:o.op=.call { callee:=.builtin .copy,args:=#[d,s],argTypes:=#[22,22] })
  (base:Nat) (g n cap:Nat) (xs:List Value) (l:List UInt8) (hd:a.eval d=.slice (some ⟨g,0,none⟩) n cap) (hown:w.ownsRow base 5 1 (.slice (some ⟨g,0,none⟩) n cap) n xs)
  (A sa:Option Addr) (b' sc:Nat) (hs:a.eval s=.slice sa n sc) (hl:l.length=n) (hr:Rd w A b' (.slice sa n sc) l)
  (h:∀ w',OwnB w' base (.slice (some ⟨g,0,none⟩) n cap) l->w.grownBy w' (some g)->wpList Tryz.prog ops Q rest (a.put o.dst (.int .i64 n)) w'):wpList Tryz.prog ops Q (o :: rest) a w:=by
 refine wpList_copyN w hgd d s 22 22 ho base 5 1 Tryz.underlying22 info5s g n cap xs (bcells l) hd hown sa sc hs (by rw [bcells_length,hl,Nat.mul_one]) (bcells_one l) ?_ ?_
 ·intro hne;obtain ⟨a1,c1,e1,h1⟩:=hr;have hne':l ≠ []:=fun e => hne (by rw [e];rfl)
  obtain ⟨b,off,e2,_,_,h3⟩:=h1 hne';injection e1 with e1 _ _;refine ⟨⟨b,off,none⟩,e1.trans e2,fun j u hu => ?_⟩;have hj:j<l.length:=by
   have:=(List.getElem?_eq_some_iff.1 hu).1;rw [bcells_length] at this;exact this
  rw [show (⟨b,off,none⟩:Addr).add j=⟨b,off+j,none⟩ by unfold Addr.add;simp,h3 j hj];simp only [bcells,List.getElem?_map,List.getElem?_eq_getElem hj,Option.map_some] at hu;exact hu
 ·intro w' h1 h2;exact h w' (by unfold OwnB;rw [hl];exact h1) h2
theorem Rd.own {w:World} {A:Option Addr} {base:Nat} {v:Value} {l:List UInt8} (h:OwnB w base v l):Rd w A base v l:=by
 rcases h.2 with ⟨rfl,hn⟩ | ⟨g,cap,cur,rfl,hb,hg,h1,h2,h3,h4⟩
 ·exact ⟨none,0,by rw [hn],fun hne => absurd (List.eq_nil_of_length_eq_zero hn) hne⟩
 ·refine ⟨_,cap,rfl,fun _ => ⟨g,0,rfl,(Array.getElem?_eq_some_iff.1 hg).1,.inr hb,fun i hi => ?_⟩⟩;have h:w.ownsRow base 5 1 (.slice (some ⟨g,0,none⟩) l.length cap) l.length (bcells l):=h;rw [Nat.zero_add,h.cellAt i (by omega)];simp [bcells,hi]
theorem info76z:(Tryz.prog.info? 76).map (fun i => (i.zero,i.size,i.bytes))=some (some (.agg #[.int .i64 0,.int .u32 0,.int .u32 0,.slice none 0 0,.pointer none,.int .i32 0,.int .i32 0]),7,56):=by kernel_rfl
theorem info76s:(Tryz.prog.info? 76).map (·.size)=some 7:=by kernel_rfl
theorem T62:ElemT 62 76 7 56:=by
 obtain ⟨i,hi,h0,h1,h2⟩:=info_parts info76z;exact ⟨Tryz.underlying62,⟨i,_,hi,h0,h1,h2,rfl⟩,by decide⟩
theorem wp_gen {P:Program} {c:Code} {Q:Exit->Act->World->Prop} {a:Act} {w:World} (F:World->Prop) (hF:F w) (h:∀ W,F W->c.wp P Q a W):c.wp P Q a w:=h w hF
structure PI (D:Doc) (A:Option Addr) (C bp:Nat) (w:World) (left nd:Value) (N:Nat) (xs:List Value) (er:Value) (ns:Nat):Prop where
 blk:Blk w bp [.bool false,.slice A D.n C,left,nd,er,.int .i64 ns] 66
 doc:DocAt D A C w
 own:w.ownsRow (bp+1) 76 7 nd N xs
 one:∀ u ∈ xs,u.oneCell'=true
 ltA:∀ a,A=some a->a.block ≠ bp/\some a.block ≠ nd.ownBlock/\a.block<w.heap.size
variable {D:Doc} {A:Option Addr} {C bp:Nat} {w w':World} {left nd er:Value} {N:Nat} {xs:List Value} {ns:Nat}
theorem PI.kp {S:Nat->Prop} (h:PI D A C bp w left nd N xs er ns) (k:Kp S w w') (hb:¬ S bp) (hA:∀ a,A=some a->¬ S a.block) (hn:∀ g,nd.ownBlock=some g->¬ S g):PI D A C bp w' left nd N xs er ns :=
 ⟨h.blk.kp k hb,h.doc.kp k hA,own_kp h.own k hn,h.one,fun a ha => ⟨(h.ltA a ha).1,(h.ltA a ha).2.1,Nat.lt_of_lt_of_le (h.ltA a ha).2.2 k.size⟩⟩
theorem PI.nil (h:PI D A C bp w left nd N xs er ns) (k:Kp Nil w w'):PI D A C bp w' left nd N xs er ns:=h.kp k (fun x => x) (fun _ _ x => x) (fun _ _ x => x)
theorem PI.blkKp {S:Nat->Prop} (h:PI D A C bp w left nd N xs er ns) (k:Kp S w w') (hb:¬ S bp) (hA:∀ a,A=some a->¬ S a.block):Blk w' bp [.bool false,.slice A D.n C,left,nd,er,.int .i64 ns] 66/\DocAt D A C w' :=
 ⟨h.blk.kp k hb,h.doc.kp k hA⟩
theorem PI.ltB (h:PI D A C bp w left nd N xs er ns):bp<w.heap.size:=h.blk.lt
theorem PI.form (h:PI D A C bp w left nd N xs er ns):∃ a c,nd=.slice a N c/\N<=c/\(N ≠ 0->∃ g,a=some ⟨g,0,none⟩):=by
 rcases h.own.2 with ⟨rfl,rfl⟩ | ⟨g,cap,cur,rfl,_,_,hc,_⟩
 ·exact ⟨none,0,rfl,qqr _,fun h => absurd rfl h⟩
 ·exact ⟨_,cap,rfl,hc,fun _ => ⟨g,rfl⟩⟩
theorem PI.moved {nd':Value} (h:PI D A C bp w left nd N xs er ns) (k:Kp Nil w w') (hf:∀ g,nd'.ownBlock=some g->w.heap.size<=g) (ho:w'.ownsRow (bp+1) 76 7 nd' N xs):PI D A C bp (w'.setCell ⟨bp,3,none⟩ nd') left nd' N xs er ns :=
 ⟨(h.blk.kpNil k).putE 3 nd' rfl,(h.doc.kp k (fun _ _ x => x)).kp (S:=Only bp) ((Kp.refl _ _).putOnly nd') (fun a ha e => (h.ltA a ha).1 e),
  own_kp ho ((Kp.refl (Only bp) w').putOnly nd') (fun g hg e => by have:=(World.ownsRow.lt ho g hg).1;have e:g=bp:=e;omega),h.one,
  fun a ha => ⟨(h.ltA a ha).1,fun e => by have:=hf _ e.symm;have:=(h.ltA a ha).2.2;omega,by have:=(h.ltA a ha).2.2;have:=k.size;simp;omega⟩⟩
theorem PI.pushed {W2 w5:World} {nd':Value} {cs:List Value} (h:PI D A C bp w left nd N xs er ns) (k:Kp Nil w W2) (hg:W2.grownBy w5 nd.ownBlock) (hfr:Fresh W2 nd nd') (ho:w5.ownsRow (bp+1) 76 7 nd' (N+1) (xs++cs)) (h1:∀ u ∈ cs,u.oneCell'=true) :
  PI D A C bp (w5.setCell ⟨bp,3,none⟩ nd') left nd' (N+1) (xs++cs) er ns:=by
 have h2:=h.nil k;have hb:∀ i,some i=nd.ownBlock->bp+1<=i:=fun i hi => (h2.own.lt i hi.symm).1
 obtain ⟨h3,h4⟩:=h2.blkKp (Kp.ofGrown hg) (fun e => by have:=hb bp e;omega) (fun a ha e => (h.ltA a ha).2.1 e);refine ⟨h3.putE 3 nd' rfl,h4.kp (S:=Only bp) ((Kp.refl _ _).putOnly nd') (fun a ha e => (h.ltA a ha).1 e),
  own_kp ho ((Kp.refl (Only bp) w5).putOnly nd') (fun g hg' e => by have:=(World.ownsRow.lt ho g hg').1;have e:g=bp:=e;omega),fun u hu => ?_,fun a ha => ⟨(h.ltA a ha).1,fun e => ?_,by have:=(h2.ltA a ha).2.2;have:=hg.size;simp;omega⟩⟩
 ·rcases List.mem_append.1 hu with h | h
  ·exact h2.one u h
  ·exact h1 u h
 ·rcases hfr with f | f
  ·exact (h.ltA a ha).2.1 (e.trans f)
  ·have:=f _ e.symm;have:=(h2.ltA a ha).2.2;omega
theorem fresh_of {w1:World} {v v1 v2:Value} (hs:w.heap.size<=w1.heap.size) (h:Fresh w1 v1 v2) (h1:∀ g,v1.ownBlock=some g->some g=v.ownBlock\/w.heap.size<g):Fresh w v v2:=by
 rcases h with h | h
 ·cases hv:v1.ownBlock with
  | none => exact .inr fun g hg => by rw [h,hv] at hg;cases hg
  | some g =>
   rcases h1 g hv with h2 | h2
   ·exact .inl (by rw [h,hv,h2])
   ·exact .inr fun g' hg => by rw [h,hv] at hg;injection hg with hg;omega
 ·exact .inr fun g hg => by have:=h g hg;omega
theorem row_at {base e size n c:Nat} {a:Option Addr} (h:w.ownsRow base e size (.slice a n c) n xs) (hne:xs ≠ []):∃ ad,a=some ad/\∀ j u,xs[j]?=some u->w.cell? (ad.add j)=some u:=by
 rcases h.2 with ⟨h1,h2⟩ | ⟨g,cap,cur,h1,_⟩
 ·subst h2;have:=h.1;rw [Nat.zero_mul] at this;exact absurd (List.eq_nil_of_length_eq_zero this) hne
 ·injection h1 with h1 _ _;exact ⟨_,h1,h.cells (g:=g) (by rw [h1];rfl)⟩
theorem own_len {base e size n m c:Nat} {a:Option Addr} (h:w.ownsRow base e size (.slice a m c) n xs):m=n:=by
 rcases h.2 with ⟨h1,h2⟩ | ⟨g,cap,cur,h1,_⟩
 ·injection h1 with _ h1 _;omega
 ·injection h1
theorem wpList_makeNd (w:World) {ops:Array Oper} {rest:List Oper} {o:Oper} {a:Act} {Q:Exit->Act->World->Prop}
  (hg:o.guard=none) (l c:Operand) (hop:o.op=Op.makeSlice 62 l c) (base:Nat)
  (L C:Int) (n m:Nat) (hl:a.eval l=.int .i64 L) (hc:a.eval c=.int .i64 C) (hL:L=(n:Int)) (hC:C=(m:Int)) (hnm:n<=m) (b2:m<=4294967296) (b4:base<=w.heap.size)
  (hK:∀ w' xs,w'.ownsRow base 76 7 (.slice (some ⟨w.heap.size,0,none⟩) n m) n xs->w.grownBy w' none->wpList Tryz.prog ops Q rest (a.put o.dst (.slice (some ⟨w.heap.size,0,none⟩) n m)) w') :
  wpList Tryz.prog ops Q (o :: rest) a w:=by
 obtain ⟨i,hi,hz0,hz1,hz2⟩:=info_parts info76z;exact wpList_makeN w hg l c 62 hop base 76 i _ 7 Tryz.underlying62 hi hz0 hz1 .i64 .i64 L C n m hl hc hL hC hnm (by rw [hz2];omega) (by unfold maxLen;omega) b4 hK
theorem push_c (D:Doc) (A:Option Addr) (C bp:Nat) (w:World) (left nd er:Value) (N:Nat) (xs:List Value) (ns:Nat) (hP:PI D A C bp w left nd N xs er ns) (hN:N<=134217728)
  (c0 c1 c2 c3 c4 c5 c6:Value) (h1c:∀ u ∈ [c0,c1,c2,c3,c5,c6],u.oneCell'=true) :
  Calls Tryz.prog 56 #[.pointer (some ⟨bp,0,none⟩),.agg #[c0,c1,c2,c3,c4,c5,c6]] w fun e w' => ∃ nd',e=.returned (.int .i32 ((N+1:Nat):Int)) /\
   PI D A C bp w' left nd' (N+1) (xs++[c0,c1,c2,c3,.pointer (some ⟨bp,0,none⟩),c5,c6]) er ns/\Kp (fun b => b=bp\/some b=nd.ownBlock) w w'/\Fresh w nd nd':=by
 obtain ⟨na,nc,rfl,hNc,hna⟩:=hP.form;have hlt:=hP.ltB;have HP:=qqh hP;have H1:=qqh h1c;have b3:=hP.blk.cell 3 rfl;have bf:=hP.blk.free 3;clear hP h1c;go_enter Tryz.func56,Tryz.ntmps56;go_wp2_with fail
 go_quiet (fail)
 go_upto_if 17 with fail;go_cut [5,6] from 7 to 42 (fun x y wx => ∃ (na':Option Addr) (nc':Nat),Hid (PI D A C bp wx left (.slice na' N nc') N xs er ns)/\Hid (Blk wx w.heap.size [c0,c1,c2,c3,c4,c5,c6] 76)/\Hid (Kp (fun b => b=bp\/some b=(Value.slice na N nc).ownBlock) w wx)/\Hid (∀ g,(Value.slice na' N nc').ownBlock=some g->some g=(Value.slice na N nc).ownBlock\/w.heap.size<g))
 case first =>
  have hB0:Hid (Blk ((w.alloc (.cells #[c0,c1,c2,c3,c4,c5,c6] 76)).drewN nq) w.heap.size [c0,c1,c2,c3,c4,c5,c6] 76):=(Blk.new w [c0,c1,c2,c3,c4,c5,c6] 76).drewN nq;have hK0:Hid (Kp Nil w ((w.alloc (.cells #[c0,c1,c2,c3,c4,c5,c6] 76)).drewN nq)):=((Kp.refl _ _).alloc _).drewN nq;have hP0:Hid (PI D A C bp ((w.alloc (.cells #[c0,c1,c2,c3,c4,c5,c6] 76)).drewN nq) left (.slice na N nc) N xs er ns):=HP.out.nil hK0.out;by_cases hcap:N=nc
  ·have e17:((N:Int) == (nc:Int))=true:=(by rw [beq_iff_eq];omega);have HCAP:=qqh hcap;have hNc2:nc<=N:=(by omega);clear hcap;have hwr:IntKind.i64.wrap (2 * (nc:Int))=2 * (nc:Int):=IntWalk.i64_in _ (by omega);obtain ⟨W0,hW0⟩:∃ W0,(w.alloc (.cells #[c0,c1,c2,c3,c4,c5,c6] 76)).drewN nq=W0:=⟨_,rfl⟩;rw [hW0] at hB0 hK0 hP0 ⊢;clear hW0 b3 bf;have b3:=hP0.out.blk.cell 3 rfl;have bf:=hP0.out.blk.free 3;have hltW:=hP0.out.ltB;have hsz:=hK0.out.size;have hltW2:=hB0.out.lt;rcases qqg (2 * nc) 64 with h64 | h64
   ·have e25:decide (2 * (nc:Int)<64)=true:=qqt (by omega);go_wp2_with (at_make;refine wpList_makeNd W0 rfl _ _ rfl (bp+1) _ _ N 64 rfl rfl rfl rfl (by omega) (by omega) (by omega) ?_)
    intro w1 xs0 hown1 hg1;have hk1:Kp Nil W0 w1:=Kp.grown (Kp.refl _ _) hg1 (fun _ h => by cases h);have hP1:=qqh (hP0.out.nil hk1);have hB1:=qqh (hB0.out.kpNil hk1);have HK1:=qqh hk1;have HO1:=qqh hown1;clear hown1 hg1 hk1 b3 bf;have b3:=hP1.out.blk.cell 3 rfl;have bf:=hP1.out.blk.free 3;go_wp2_with (refine wpList_copyN w1 rfl _ _ 62 62 rfl (bp+1) 76 7 Tryz.underlying62 info76s W0.heap.size N 64 xs0 xs rfl (by exact HO1.out) na nc rfl hP1.out.own.1 hP1.out.one (fun hne => row_at hP1.out.own hne) ?_)
    intro w2 hown2 hg2;have hb2:∀ i,some i=some W0.heap.size->W0.heap.size<=i:=fun i hi => by injection hi with hi;omega
    have hk2:Kp Nil W0 w2:=Kp.grown HK1.out hg2 (fun i hi => .inr (hb2 i hi.symm));have hP2:=qqh (hP0.out.nil hk2);have hB2:=qqh (hB0.out.kpNil hk2);have HK2:=qqh hk2;have HO2:=qqh hown2;clear hown2 hg2 hk2 b3 bf;have b3:=hP2.out.blk.cell 3 rfl;have bf:=hP2.out.blk.free 3;go_wp2_with fail
    go_meet;exact ⟨_,64,PI.moved hP0.out HK2.out (fun g hg => by have hg:some W0.heap.size=some g:=hg;injection hg with hg;omega) HO2.out,Blk.kpOnly hB2.out ((Kp.refl _ _).putOnly _) (by omega),
     Kp.then (Kp.then (hK0.out.mono (T:=fun b => b=bp\/some b=(Value.slice na N nc).ownBlock) (fun _ x => x.elim)) HK2.out (fun _ x => x.elim)) ((Kp.refl (Only bp) w2).putOnly _) (fun i hi => .inl (.inl hi)),
     fun g hg => .inr (by have hg:some W0.heap.size=some g:=hg;injection hg with hg;omega)⟩
   ·have e25:decide (2 * (nc:Int)<64)=false:=qqf (by omega);go_wp2_with (at_make;refine wpList_makeNd W0 rfl _ _ rfl (bp+1) _ _ N (2 * nc) rfl rfl rfl (by omega) (by omega) (by omega) (by omega) ?_)
    intro w1 xs0 hown1 hg1;have hk1:Kp Nil W0 w1:=Kp.grown (Kp.refl _ _) hg1 (fun _ h => by cases h);have hP1:=qqh (hP0.out.nil hk1);have hB1:=qqh (hB0.out.kpNil hk1);have HK1:=qqh hk1;have HO1:=qqh hown1;clear hown1 hg1 hk1 b3 bf;have b3:=hP1.out.blk.cell 3 rfl;have bf:=hP1.out.blk.free 3;go_wp2_with (refine wpList_copyN w1 rfl _ _ 62 62 rfl (bp+1) 76 7 Tryz.underlying62 info76s W0.heap.size N (2 * nc) xs0 xs rfl (by exact HO1.out) na nc rfl hP1.out.own.1 hP1.out.one (fun hne => row_at hP1.out.own hne) ?_)
    intro w2 hown2 hg2;have hb2:∀ i,some i=some W0.heap.size->W0.heap.size<=i:=fun i hi => by injection hi with hi;omega
    have hk2:Kp Nil W0 w2:=Kp.grown HK1.out hg2 (fun i hi => .inr (hb2 i hi.symm));have hP2:=qqh (hP0.out.nil hk2);have hB2:=qqh (hB0.out.kpNil hk2);have HK2:=qqh hk2;have HO2:=qqh hown2;clear hown2 hg2 hk2 b3 bf;have b3:=hP2.out.blk.cell 3 rfl;have bf:=hP2.out.blk.free 3;go_wp2_with fail
    go_meet;exact ⟨_,2 * nc,PI.moved hP0.out HK2.out (fun g hg => by have hg:some W0.heap.size=some g:=hg;injection hg with hg;omega) HO2.out,Blk.kpOnly hB2.out ((Kp.refl _ _).putOnly _) (by omega),
     Kp.then (Kp.then (hK0.out.mono (T:=fun b => b=bp\/some b=(Value.slice na N nc).ownBlock) (fun _ x => x.elim)) HK2.out (fun _ x => x.elim)) ((Kp.refl (Only bp) w2).putOnly _) (fun i hi => .inl (.inl hi)),
     fun g hg => .inr (by have hg:some W0.heap.size=some g:=hg;injection hg with hg;omega)⟩
  ·have e17:((N:Int) == (nc:Int))=false:=qqn (by omega);clear hcap;go_wp2_with fail
   go_meet;exact ⟨na,nc,hP0,hB0,hK0.out.mono (fun _ x => x.elim),fun g hg => .inl hg.symm⟩
 case rest =>
  obtain ⟨na',nc',hP1,hB1,hK1,hF1⟩:=hcut;have b3':=hP1.out.blk.cell 3 rfl;have bf':=hP1.out.blk.free 3;have q0:=hB1.out.cell 0 rfl;have q1:=hB1.out.cell 1 rfl;have q2:=hB1.out.cell 2 rfl;have q3:=hB1.out.cell 3 rfl;have q4:=hB1.out.cell 4 rfl;have q5:=hB1.out.cell 5 rfl;have q6:=hB1.out.cell 6 rfl;have qf:=hB1.out.free 4;clear b3 bf;go_upto_region 9 with fail;have hold:∀ g,(Value.slice na N nc).ownBlock=some g->bp+1<=g/\g<w.heap.size:=HP.out.own.lt;refine wp_gen (fun W => Hid (PI D A C bp W left (.slice na' N nc') N xs er ns)/\Hid (Blk W w.heap.size [c0,c1,c2,c3,.pointer (some ⟨bp,0,none⟩),c5,c6] 76)/\Hid (Kp (fun b => b=bp\/some b=(Value.slice na N nc).ownBlock) w W)) ⟨?_,?_,?_⟩ ?_
  ·refine hP1.out.kp (S:=Only w.heap.size) ((Kp.refl _ _).putOnly _) (fun e => ?_) (fun a ha e => ?_) (fun g hg e => ?_)
   ·have e:bp=w.heap.size:=e;omega
   ·have:=(HP.out.ltA a ha).2.2;have e:a.block=w.heap.size:=e;omega
   ·have e:g=w.heap.size:=e;rcases hF1.out g hg with h | h
    ·have:=hold g h.symm;omega
    ·omega
  ·exact hB1.out.putE 4 _ rfl
  ·exact hK1.out.then ((Kp.refl (Only w.heap.size) wc).putOnly _) (fun i hi => .inr (qql hi.symm))
  rintro W ⟨hP2,hB2,hK2⟩;clear b3' bf' q0 q1 q2 q3 q4 q5 q6 qf hP1 hB1 hK1;have b3:=hP2.out.blk.cell 3 rfl;have bf:=hP2.out.blk.free 3;have q0:=hB2.out.cell 0 rfl;have q1:=hB2.out.cell 1 rfl;have q2:=hB2.out.cell 2 rfl;have q3:=hB2.out.cell 3 rfl;have q4:=hB2.out.cell 4 rfl;have q5:=hB2.out.cell 5 rfl;have q6:=hB2.out.cell 6 rfl;have hone:Hid (∀ u ∈ [c0,c1,c2,c3,.pointer (some ⟨bp,0,none⟩),c5,c6],u.oneCell'=true):=by
   intro u hu;have h1:=H1.out u;simp at hu h1;rcases hu with h | h | h | h | h | h | h
   ·exact h1 (.inl h)
   ·exact h1 (.inr (.inl h))
   ·exact h1 (.inr (.inr (.inl h)))
   ·exact h1 (.inr (.inr (.inr (.inl h))))
   ·subst h;rfl
   ·exact h1 (.inr (.inr (.inr (.inr (.inl h)))))
   ·exact h1 (.inr (.inr (.inr (.inr (.inr h)))))
  have hltW:=hP2.out.ltB;have hltW2:=hB2.out.lt;go_cut [] from 43 to 54 (fun wx => ∃ (na2:Option Addr) (nc2:Nat),Hid (PI D A C bp wx left (.slice na2 (N+1) nc2) (N+1) (xs++[c0,c1,c2,c3,.pointer (some ⟨bp,0,none⟩),c5,c6]) er ns)/\Hid (Kp (fun b => b=bp\/some b=(Value.slice na N nc).ownBlock) w wx)/\Hid (Fresh w (.slice na N nc) (.slice na2 (N+1) nc2)))
  case first =>
   go_region_law (first
    | (refine step_appF rfl T62 _ _ rfl (bp+1) _ N xs rfl (by exact own_alloc hP2.out.own _) W.heap.size 1 _ rfl [c0,c1,c2,c3,.pointer (some ⟨bp,0,none⟩),c5,c6] rfl (fun j u hu => by change (W.alloc _).cell? ⟨W.heap.size,j,none⟩=some u;rw [cell_newI rfl];simpa using hu) hone.out (by omega) (by omega) (by simp;omega) ?_;intro v' w5 hown5 hg5 hfr5;obtain ⟨sa',sl',sc',rfl⟩:=IsSl.own hown5;have hP5:=qqh (PI.blkKp (S:=fun k => some k=(Value.slice na' N nc').ownBlock) (hP2.out.nil (((Kp.refl Nil W).drew).alloc _)) (Kp.ofGrown hg5) (fun e => by have:=hP2.out.own.lt bp e.symm;omega) (fun a ha e => (hP2.out.ltA a ha).2.1 e));have b35:=hP5.out.1.cell 3 rfl;have f35:=hP5.out.1.free 3))
   all_goals
    go_wp2_with fail
    go_meet;obtain rfl:=own_len hown5;exact ⟨sa',sc',PI.pushed hP2.out (((Kp.refl Nil W).alloc _).drew) hg5 hfr5 hown5 hone.out,
     Kp.then (Kp.then (Kp.then hK2.out (((Kp.refl Nil W).alloc _).drew) (fun _ x => x.elim)) (Kp.ofGrown hg5) (fun i hi => (hF1.out i hi.symm).imp .inr (fun h => Nat.le_of_lt h))) ((Kp.refl (Only bp) w5).putOnly _) (fun i hi => .inl (.inl hi)),
     fresh_of (by have:=hK2.out.size;simp;omega) hfr5 hF1.out⟩
  case rest =>
   obtain ⟨na2,nc2,hP3,hK3,hF3⟩:=hcut;have b3':=hP3.out.blk.cell 3 rfl;go_wp2_with fail
   go_ret;exact ⟨_,ret_int (by omega),hP3.out,hK3.out,hF3.out⟩
end Go.Proofs.YtpgmddjgcgpoeaaGreat
