/-
  Part 8 of the proof.
-/
import Derived.Test.YtpgmddjgcgpoeaaGreatA01
import Derived.Lib.AppendStr
import Derived.StillTailTactics
set_option linter.unusedVariables false
set_option linter.unusedSimpArgs false
namespace Go.Proofs.YtpgmddjgcgpoeaaGreat
open Go.RowKit
theorem info5:(Tryz.prog.info? 5).map (fun i => (i.zero,i.size,i.bytes))=some (some (.int .u8 0),1,1):=by kernel_rfl
def bcells (l:List UInt8):List Value:=l.map fun b => Value.int .u8 (b.toNat:Int)
/-- The slice v is the call's own (made since there were 'base' blocks) and holds the bytes l. -/
def OwnB (w:World) (base:Nat) (v:Value) (l:List UInt8):Prop:=w.ownsRow base 5 1 v l.length (bcells l)
theorem bcells_append (l k:List UInt8):bcells (l++k)=bcells l++bcells k:=by simp [bcells]
theorem bcells_length (l:List UInt8):(bcells l).length=l.length:=by simp [bcells]
theorem bcells_one (l:List UInt8):∀ u ∈ bcells l,u.oneCell'=true:=by
 intro u hu
 simp only [bcells,List.mem_map] at hu
 obtain ⟨b,_,rfl⟩:=hu
 rfl
theorem OwnB.kp {S:Nat→Prop} {w w':World} {base:Nat} {v:Value} {l:List UInt8} (h:OwnB w base v l) (k:Kp S w w') (hS:∀ g,v.ownBlock=some g→¬ S g):OwnB w' base v l:=by
 refine ⟨h.1,?_⟩
 rcases h.2 with hn | ⟨g,cap,cur,rfl,hb,hg,r⟩
 ·exact .inl hn
 ·refine .inr ⟨g,cap,cur,rfl,hb,?_,r⟩
  rw [k.block g (Array.getElem?_eq_some_iff.1 hg).1 (hS g rfl)]
  exact hg
theorem OwnB.drewN {w:World} {base:Nat} {v:Value} {l:List UInt8} (h:OwnB w base v l) (n:Nat):OwnB (w.drewN n) base v l:=h
theorem OwnB.drew {w:World} {base:Nat} {v:Value} {l:List UInt8} (h:OwnB w base v l):OwnB w.drew base v l:=h
theorem OwnB.lt {w:World} {base:Nat} {v:Value} {l:List UInt8} (h:OwnB w base v l):∀ k,v.ownBlock=some k→base≤k∧k<w.heap.size:=World.ownsRow.lt h
theorem OwnB.put {w:World} {base:Nat} {v:Value} {l:List UInt8} (h:OwnB w base v l) {a:Addr} (ha:a.block<base) (u:Value):OwnB (w.setCell a u) base v l:=ownsRow_setCell_below h ha u
theorem OwnB.mono {w:World} {base base':Nat} {v:Value} {l:List UInt8} (h:OwnB w base v l) (hb:base'≤base):OwnB w base' v l:=by
 refine ⟨h.1,?_⟩
 rcases h.2 with hn | ⟨g,cap,cur,hv,hb',r⟩
 ·exact .inl hn
 ·exact .inr ⟨g,cap,cur,hv,by omega,r⟩
theorem Kp.ofGrown {w w':World} {row:Option Nat} (hg:w.grownBy w' row):Kp (fun k => some k=row) w w':=⟨hg.os,hg.tape,hg.output,hg.size,fun k hk hs => hg.block k hk hs⟩
theorem PS.grown {D:Doc} {bp:Nat} {A:Option Addr} {C:Nat} {w w':World} {at_ st base:Nat} {v:Value} {l:List UInt8} (h:PS D bp A C w at_ st) (hown:OwnB w base v l) (hg:w.grownBy w' v.ownBlock) (hb:bp<base) (hA:∀ a,A=some a→a.block<base):PS D bp A C w' at_ st :=
 h.kp (Kp.ofGrown hg) (fun e => by have:=hown.lt bp e.symm;omega) (fun a ha e => by have:=hown.lt a.block e.symm;have:=hA a ha;omega)
theorem Kp.grownOwn {S:Nat→Prop} {a w w':World} {v:Value} {l:List UInt8} (h:Kp S a w) (hown:OwnB w a.heap.size v l) (hg:w.grownBy w' v.ownBlock):Kp S a w' :=
 h.grown hg (fun k hk => .inr (hown.lt k hk).1)
/-- 'b[l:h]' of a slice of bytes, l below its capacity. -/
theorem slice_lh (bd o n C:Nat) (l h:Int) (k m:Nat) (hl:l=(k:Int)) (hh:h=((k+m:Nat):Int)) (hC:k+m≤C) (hk:k<C) (w:World) :
  (Instr.slice 22 (.slice (some ⟨bd,o,none⟩) n C) (some (.int .i64 l)) (some (.int .i64 h)) none).run Tryz.prog w=.ok (.slice (some ⟨bd,o+k,none⟩) m (C - k)) w:=by
 subst hl hh
 have ht:Tryz.prog.underlying 22=some (.slice (Tryz.prog.elem 22)):=by kernel_rfl
 have he:Tryz.prog.elem 22=5:=by kernel_rfl
 obtain ⟨i,hi,hz0,hz1,hz2⟩:=info_parts info5
 rw [run_slice_lh (P:=Tryz.prog) w 22 (some ⟨bd,o,none⟩) n C ht .i64 .i64 (k:Int) ((k+m:Nat):Int) (by omega) (by omega) (by omega)]
 have h1:((k+m:Nat):Int).toNat=k+m:=by omega
 have h2:(k:Int).toNat=k:=by omega
 have h3:¬ C=k:=by omega
 have h4:(sizeOf (Tryz.prog.elem 22)).run Tryz.prog w=.ok 1 w:=by rw [he];simp [sizeOf,typeInfo,hi,hz1]
 rw [h4,h1,h2]
 simp [Result.andThen,sliced,h3,Addr.add]
/-- 'append(out, s...)', s a string. -/
theorem wpList_app_str {w:World} {ops:Array Oper} {rest:List Oper} {o:Oper} {a:Act} {Q:Exit→Act→World→Prop} (hgd:o.guard=none) (sl x:Operand)
  (ho:o.op=.call { callee:=.builtin .append,args:=#[sl,x],argTypes:=#[22,9] })
  (base:Nat) (v:Value) (l s:List UInt8) (hs:a.eval sl=v) (hown:OwnB w base v l) (hx:a.eval x=.string ⟨s.toArray⟩)
  (hle:l.length+s.length≤4294967296) (hbase:base≤w.heap.size)
  (h:∀ v' w',OwnB w' base v' (l++s)→w.grownBy w' v.ownBlock→wpList Tryz.prog ops Q rest (a.put o.dst v') w'):wpList Tryz.prog ops Q (o :: rest) a w:=by
 obtain ⟨i,hi,hz0,hz1,hz2⟩:=info_parts info5
 have hsz:(⟨s.toArray⟩:ByteArray).size=s.length:=by show s.toArray.size=_;simp
 refine Lib.wpList_append_own_string w hgd sl x 22 9 ho base 5 i Tryz.underlying22 Tryz.underlying9 hi hz0 hz1 hz2 v l.length (bcells l) hs hown ⟨s.toArray⟩ hx (by rw [hsz];unfold maxLen;omega) (by rw [hsz];omega) hbase ?_
 intro v' w' h1 h2 _
 refine h v' w' ?_ h2
 unfold OwnB
 rw [bcells_append,List.length_append]
 rw [hsz] at h1
 have e:Lib.strCells (⟨s.toArray⟩:ByteArray)=bcells s:=by simp [Lib.strCells,bcells]
 rw [e] at h1
 exact h1
/-- 'append(out, b...)', b a slice whose cells are the bytes s. -/
theorem wpList_app_bytes {w:World} {ops:Array Oper} {rest:List Oper} {o:Oper} {a:Act} {Q:Exit→Act→World→Prop} (hgd:o.guard=none) (sl x:Operand)
  (ho:o.op=.call { callee:=.builtin .append,args:=#[sl,x],argTypes:=#[22,22] })
  (base:Nat) (v:Value) (l s:List UInt8) (hs:a.eval sl=v) (hown:OwnB w base v l) (b off c:Nat) (hx:a.eval x=.slice (some ⟨b,off,none⟩) s.length c)
  (hc:∀ j (hj:j<s.length),w.cell? ⟨b,off+j,none⟩=some (.int .u8 (s[j].toNat:Int)))
  (hle:l.length+s.length≤4294967296) (hbase:base≤w.heap.size)
  (h:∀ v' w',OwnB w' base v' (l++s)→w.grownBy w' v.ownBlock→wpList Tryz.prog ops Q rest (a.put o.dst v') w'):wpList Tryz.prog ops Q (o :: rest) a w:=by
 obtain ⟨i,hi,hz0,hz1,hz2⟩:=info_parts info5
 refine wpList_append_own w hgd sl x 22 ho base 5 i (.int .u8 0) 1 1 Tryz.underlying22 hi hz0 hz1 hz2 rfl (by decide) v l.length (bcells l) hs hown ⟨b,off,none⟩ s.length c (bcells s) hx (by rw [bcells_length];omega) ?_ (bcells_one s) (by unfold maxLen;omega) (by omega) hbase ?_
 ·intro j u hu
  have hj:j<s.length:=by
   have:=(List.getElem?_eq_some_iff.1 hu).1
   rw [bcells_length] at this
   exact this
  rw [show (⟨b,off,none⟩:Addr).add j=⟨b,off+j,none⟩ by unfold Addr.add;simp,hc j hj]
  simp only [bcells,List.getElem?_map,List.getElem?_eq_getElem hj,Option.map_some] at hu
  exact hu
 intro v' w' h1 h2 _
 refine h v' w' ?_ h2
 unfold OwnB
 rw [bcells_append,List.length_append]
 exact h1
/-- 'string(out)'. -/
theorem conv_own {w:World} {base:Nat} {v:Value} {l:List UInt8} (h:OwnB w base v l):(convert 22 9 v).run Tryz.prog w=.ok (.string ⟨l.toArray⟩) w:=by
 rcases h.2 with ⟨rfl,hn⟩ | ⟨g,cap,cur,rfl,hb,hg,h1,h2,h3,h4⟩
 ·have hl:l=[]:=List.eq_nil_of_length_eq_zero hn
  subst hl
  rw [run_convert_bytes_nil w 22 5 Tryz.underlying22 Tryz.underlying5 0 0 9 Tryz.underlying9]
  rfl
 ·refine run_convert_bytes_back (P:=Tryz.prog) w 22 9 5 ⟨g,0,none⟩ cap l Tryz.underlying22 Tryz.underlying5 Tryz.underlying9 (fun j hj => ?_)
  have:=World.ownsRow.cells h (g:=g) rfl j (.int .u8 (l[j].toNat:Int)) (by simp [bcells,hj])
  exact this
end Go.Proofs.YtpgmddjgcgpoeaaGreat
