/-
  A part of the proof.
-/
import Derived.Test.YtpgmddjgcgpoeaaGreatD01
import Derived.Lib.AppendStr
import Derived.StillTailTactics
import Derived.BigQuiet
set_option linter.unusedVariables false
set_option linter.unusedSimpArgs false
set_option maxRecDepth 100000
set_option maxHeartbeats 8000000
namespace Go.Proofs.YtpgmddjgcgpoeaaGreat
open Go.RowKit
theorem info5:(Tryz.prog.info? 5).map (fun i => (i.zero,i.size,i.bytes))=some (some (.int .u8 0),1,1):=by kernel_rfl
def bcells (l:List UInt8):List Value:=l.map fun b => Value.int .u8 (b.toNat:Int)
def OwnB (w:World) (base:Nat) (v:Value) (l:List UInt8):Prop:=w.ownsRow base 5 1 v l.length (bcells l)
theorem bcells_append (l k:List UInt8):bcells (l++k)=bcells l++bcells k:=by simp [bcells]
theorem bcells_length (l:List UInt8):(bcells l).length=l.length:=by simp [bcells]
theorem bcells_one (l:List UInt8):∀ u ∈ bcells l,u.oneCell'=true:=by
 intro u hu;simp only [bcells,List.mem_map] at hu;obtain ⟨b,_,rfl⟩:=hu
 rfl
theorem OwnB.kp {S:Nat->Prop} {w w':World} {base:Nat} {v:Value} {l:List UInt8} (h:OwnB w base v l) (k:Kp S w w') (hS:∀ g,v.ownBlock=some g->¬ S g):OwnB w' base v l:=by
 refine ⟨h.1,?_⟩;rcases h.2 with hn | ⟨g,cap,cur,rfl,hb,hg,r⟩
 ·exact .inl hn
 ·refine .inr ⟨g,cap,cur,rfl,hb,?_,r⟩;rw [k.block g (Array.getElem?_eq_some_iff.1 hg).1 (hS g rfl)];exact hg
theorem OwnB.drewN {w:World} {base:Nat} {v:Value} {l:List UInt8} (h:OwnB w base v l) (n:Nat):OwnB (w.drewN n) base v l:=h
theorem OwnB.drew {w:World} {base:Nat} {v:Value} {l:List UInt8} (h:OwnB w base v l):OwnB w.drew base v l:=h
theorem OwnB.lt {w:World} {base:Nat} {v:Value} {l:List UInt8} (h:OwnB w base v l):∀ k,v.ownBlock=some k->base<=k/\k<w.heap.size:=World.ownsRow.lt h
theorem OwnB.put {w:World} {base:Nat} {v:Value} {l:List UInt8} (h:OwnB w base v l) {a:Addr} (ha:a.block<base) (u:Value):OwnB (w.setCell a u) base v l:=ownsRow_setCell_below h ha u
theorem OwnB.mono {w:World} {base base':Nat} {v:Value} {l:List UInt8} (h:OwnB w base v l) (hb:base'<=base):OwnB w base' v l:=by
 refine ⟨h.1,?_⟩;rcases h.2 with hn | ⟨g,cap,cur,hv,hb',r⟩
 ·exact .inl hn
 ·exact .inr ⟨g,cap,cur,hv,by omega,r⟩
theorem Kp.ofGrown {w w':World} {row:Option Nat} (hg:w.grownBy w' row):Kp (fun k => some k=row) w w':=⟨hg.os,hg.tape,hg.output,hg.size,fun k hk hs => hg.block k hk hs⟩
theorem PS.grown {D:Doc} {bp:Nat} {A:Option Addr} {C:Nat} {w w':World} {at_ st base:Nat} {v:Value} {l:List UInt8} (h:PS D bp A C w at_ st) (hown:OwnB w base v l) (hg:w.grownBy w' v.ownBlock) (hb:bp<base) (hA:∀ a,A=some a->a.block<base):PS D bp A C w' at_ st :=
 h.kp (Kp.ofGrown hg) (fun e => by have:=hown.lt bp e.symm;omega) (fun a ha e => by have:=hown.lt a.block e.symm;have:=hA a ha;omega)
theorem Kp.grownOwn {S:Nat->Prop} {a w w':World} {v:Value} {l:List UInt8} (h:Kp S a w) (hown:OwnB w a.heap.size v l) (hg:w.grownBy w' v.ownBlock):Kp S a w' :=
 h.grown hg (fun k hk => .inr (hown.lt k hk).1)
theorem slice_lh (bd o n C:Nat) (l h:Int) (k m:Nat) (hl:l=(k:Int)) (hh:h=((k+m:Nat):Int)) (hC:k+m<=C) (hk:k<C) (w:World) :
  (Instr.slice 22 (.slice (some ⟨bd,o,none⟩) n C) (some (.int .i64 l)) (some (.int .i64 h)) none).run Tryz.prog w=.ok (.slice (some ⟨bd,o+k,none⟩) m (C - k)) w:=by
 subst hl hh;have ht:Tryz.prog.underlying 22=some (.slice (Tryz.prog.elem 22)):=by kernel_rfl
 have he:Tryz.prog.elem 22=5:=by kernel_rfl
 obtain ⟨i,hi,hz0,hz1,hz2⟩:=info_parts info5;rw [run_slice_lh (P:=Tryz.prog) w 22 (some ⟨bd,o,none⟩) n C ht .i64 .i64 (k:Int) ((k+m:Nat):Int) (by omega) (by omega) (by omega)];have h1:((k+m:Nat):Int).toNat=k+m:=by omega
 have h2:(k:Int).toNat=k:=by omega
 have h3:¬ C=k:=by omega
 have h4:(sizeOf (Tryz.prog.elem 22)).run Tryz.prog w=.ok 1 w:=by rw [he];simp [sizeOf,typeInfo,hi,hz1]
 rw [h4,h1,h2];simp [Result.andThen,sliced,h3,Addr.add]
theorem wpList_app_str {w:World} {ops:Array Oper} {rest:List Oper} {o:Oper} {a:Act} {Q:Exit->Act->World->Prop} (hgd:o.guard=none) (sl x:Operand)
  (ho:o.op=.call { callee:=.builtin .append,args:=#[sl,x],argTypes:=#[22,9] })
  (base:Nat) (v:Value) (l s:List UInt8) (hs:a.eval sl=v) (hown:OwnB w base v l) (hx:a.eval x=.string ⟨s.toArray⟩)
  (hle:l.length+s.length<=4294967296) (hbase:base<=w.heap.size)
  (h:∀ v' w',OwnB w' base v' (l++s)->w.grownBy w' v.ownBlock->wpList Tryz.prog ops Q rest (a.put o.dst v') w'):wpList Tryz.prog ops Q (o :: rest) a w:=by
 obtain ⟨i,hi,hz0,hz1,hz2⟩:=info_parts info5;have hsz:(⟨s.toArray⟩:ByteArray).size=s.length:=by show s.toArray.size=_;simp
 refine Lib.wpList_append_own_string w hgd sl x 22 9 ho base 5 i Tryz.underlying22 Tryz.underlying9 hi hz0 hz1 hz2 v l.length (bcells l) hs hown ⟨s.toArray⟩ hx (by rw [hsz];unfold maxLen;omega) (by rw [hsz];omega) hbase ?_;intro v' w' h1 h2 _;refine h v' w' ?_ h2;unfold OwnB;rw [bcells_append,qqa];rw [hsz] at h1;have e:Lib.strCells (⟨s.toArray⟩:ByteArray)=bcells s:=by simp [Lib.strCells,bcells]
 rw [e] at h1;exact h1
theorem wpList_app_bytes {w:World} {ops:Array Oper} {rest:List Oper} {o:Oper} {a:Act} {Q:Exit->Act->World->Prop} (hgd:o.guard=none) (sl x:Operand)
  (ho:o.op=.call { callee:=.builtin .append,args:=#[sl,x],argTypes:=#[22,22] })
  (base:Nat) (v:Value) (l s:List UInt8) (hs:a.eval sl=v) (hown:OwnB w base v l) (b off c:Nat) (hx:a.eval x=.slice (some ⟨b,off,none⟩) s.length c)
  (hc:∀ j (hj:j<s.length),w.cell? ⟨b,off+j,none⟩=some (.int .u8 (s[j].toNat:Int)))
  (hle:l.length+s.length<=4294967296) (hbase:base<=w.heap.size)
  (h:∀ v' w',OwnB w' base v' (l++s)->w.grownBy w' v.ownBlock->wpList Tryz.prog ops Q rest (a.put o.dst v') w'):wpList Tryz.prog ops Q (o :: rest) a w:=by
 obtain ⟨i,hi,hz0,hz1,hz2⟩:=info_parts info5;refine wpList_append_own w hgd sl x 22 ho base 5 i (.int .u8 0) 1 1 Tryz.underlying22 hi hz0 hz1 hz2 rfl (by decide) v l.length (bcells l) hs hown ⟨b,off,none⟩ s.length c (bcells s) hx (by rw [bcells_length];omega) ?_ (bcells_one s) (by unfold maxLen;omega) (by omega) hbase ?_
 ·intro j u hu;have hj:j<s.length:=by
   have:=(List.getElem?_eq_some_iff.1 hu).1;rw [bcells_length] at this;exact this
  rw [show (⟨b,off,none⟩:Addr).add j=⟨b,off+j,none⟩ by unfold Addr.add;simp,hc j hj];simp only [bcells,List.getElem?_map,List.getElem?_eq_getElem hj,Option.map_some] at hu;exact hu
 intro v' w' h1 h2 _;refine h v' w' ?_ h2;unfold OwnB;rw [bcells_append,qqa];exact h1
theorem conv_own {w:World} {base:Nat} {v:Value} {l:List UInt8} (h:OwnB w base v l):(convert 22 9 v).run Tryz.prog w=.ok (.string ⟨l.toArray⟩) w:=by
 rcases h.2 with ⟨rfl,hn⟩ | ⟨g,cap,cur,rfl,hb,hg,h1,h2,h3,h4⟩
 ·have hl:l=[]:=List.eq_nil_of_length_eq_zero hn;subst hl;rw [run_convert_bytes_nil w 22 5 Tryz.underlying22 Tryz.underlying5 0 0 9 Tryz.underlying9]
  rfl
 ·refine run_convert_bytes_back (P:=Tryz.prog) w 22 9 5 ⟨g,0,none⟩ cap l Tryz.underlying22 Tryz.underlying5 Tryz.underlying9 (fun j hj => ?_);have:=World.ownsRow.cells h (g:=g) rfl j (.int .u8 (l[j].toNat:Int)) (by simp [bcells,hj]);exact this
structure ST (D:Doc) (A:Option Addr) (C bp:Nat) (w:World) (at_:Nat):Prop where
 blk:Blk w bp [.slice A D.n C,.int .i64 at_] 39
 doc:DocAt D A C w
 ne:∀ a,A=some a->a.block ≠ bp
section
variable {D:Doc} {A:Option Addr} {C bp:Nat} {w w':World} {at_:Nat}
theorem ST.kp {S:Nat->Prop} (h:ST D A C bp w at_) (k:Kp S w w') (hb:¬ S bp) (hA:∀ a,A=some a->¬ S a.block):ST D A C bp w' at_:=⟨h.blk.kp k hb,h.doc.kp k hA,h.ne⟩
theorem ST.nil (h:ST D A C bp w at_) (k:Kp Nil w w'):ST D A C bp w' at_:=h.kp k (fun x => x) (fun _ _ x => x)
theorem ST.setAt (h:ST D A C bp w at_) (k:Int) (k':Nat) (e:k=(k':Int)):ST D A C bp (w.setCell ⟨bp,1,none⟩ (.int .i64 k)) k' :=
 ⟨by subst e;exact h.blk.put 1 _,h.doc.of_block (by simp) fun a ha _ => Below.heap_setCell _ _ _ _ (h.ne a ha),h.ne⟩
end
def pickV (D:Doc) (k:Nat):Nat:=if k<D.n then D.c k else k * 7
theorem wpick_c (D:Doc) (A:Option Addr) (C bp:Nat) (w:World) (at_ n:Nat) (hp:ST D A C bp w at_) (hat:at_<=100000000) (hn:0<n) (hn2:n<=100) :
  Calls Tryz.prog 12 #[.pointer (some ⟨bp,0,none⟩),.int .i64 n] w fun e w' => e=.returned (.int .i64 (pickV D at_ % n:Nat))/\ST D A C bp w' (at_+1)/\Kp (Only bp) w w':=by
 have c0:=hp.blk.cell 0 rfl;have c1:=hp.blk.cell 1 rfl;have f1:=hp.blk.free 1;have HP:=qqh hp;have m7:IntKind.i64.wrap ((at_:Int) * 7)=(at_:Int) * 7:=IntWalk.i64_in _ (by omega);have a1:IntKind.i64.wrap ((at_:Int)+1)=(at_:Int)+1:=IntWalk.i64_in _ (by omega);have hn0:((n:Int) == 0)=false:=qqn (by omega);rcases qqg at_ D.n with hlt | hge
 ·have hlt':(at_:Int)<D.n:=by omega
  obtain ⟨_,_,h | ⟨bd,o,rfl,_,hc⟩⟩:=hp.doc
  ·omega
  have hcb:=hc at_ hlt;have hv:pickV D at_=D.c at_:=if_pos hlt;have hcl:=D.lt at_;have hr:IntKind.i64.wrap (((D.c at_:Nat):Int).tmod (n:Int))=((D.c at_ % n:Nat):Int):=by
   rw [IntWalk.i64_in _ (by have:=Nat.mod_lt (D.c at_) hn;rw [show ((D.c at_:Nat):Int).tmod (n:Int)=((D.c at_ % n:Nat):Int) from rfl];omega)];rfl
  rw [hv];clear hv hp hc;go_enter Tryz.func12,Tryz.ntmps12;go_wp2_with (go_quiet (fail))
  go_ret;exact ⟨rfl,(HP.out.nil ((Kp.refl Nil w).drewN _)).setAt _ _ (by push_cast;rfl),((Kp.refl (Only bp) w).drewN _).putOnly _⟩
 ·have hlt':¬ ((at_:Int)<D.n):=by omega
  have hv:pickV D at_=at_ * 7:=if_neg (by omega);have hr:IntKind.i64.wrap (((at_:Int) * 7).tmod (n:Int))=((at_ * 7 % n:Nat):Int):=by
   have e:((at_:Int) * 7)=((at_ * 7:Nat):Int):=(by push_cast;rfl);rw [e,show ((at_ * 7:Nat):Int).tmod (n:Int)=((at_ * 7 % n:Nat):Int) from rfl,IntWalk.i64_in _ (by have:=Nat.mod_lt (at_ * 7) hn;omega)]
  rw [hv];clear hv hp;go_enter Tryz.func12,Tryz.ntmps12;go_wp2_with (go_quiet (fail))
  go_ret;exact ⟨rfl,(HP.out.nil ((Kp.refl Nil w).drewN _)).setAt _ _ (by push_cast;rfl),((Kp.refl (Only bp) w).drewN _).putOnly _⟩
end Go.Proofs.YtpgmddjgcgpoeaaGreat
