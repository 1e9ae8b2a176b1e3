/-
  A part of the proof.
-/
import Derived.Test.YtpgmddjgcgpoeaaGreatD44
import Derived.Test.YtpgmddjgcgpoeaaGreatD38
import Derived.ArgAppend
import Derived.Deep.AppendSrc
set_option linter.unusedVariables false
set_option linter.unusedSimpArgs false
set_option maxRecDepth 100000
set_option maxHeartbeats 8000000
namespace Go.Proofs.YtpgmddjgcgpoeaaGreat
open Go.RowKit
def BR (w:World) (base:Nat) (v:Value) (l:List UInt8):Prop :=
 ∃ (g cap:Nat),v=.slice (some ⟨g,0,none⟩) l.length cap/\base<=g/\l.length<=cap/\cap<=9223372036854775807/\g<w.heap.size /\
  (∀ j u,(bcells l)[j]?=some u->w.cell? ⟨g,j,none⟩=some u)/\∀ j,j<cap->(w.cell? ⟨g,j,none⟩).isSome=true/\w.frozen? ⟨g,j,none⟩=false
theorem BRow.br {w:World} {base:Nat} {v:Value} {l:List UInt8} (h:BRow w base v l):BR w base v l:=by
 obtain ⟨g,cap,cells,⟨f0,f1⟩,rfl,hb,hg,h1,h2,h3,h4,hc⟩:=h;have hlt:g<w.heap.size:=(Array.getElem?_eq_some_iff.1 hg).1;have h3:cells.size<=f0:=h3;refine ⟨g,cap,rfl,hb,h1,h4,hlt,fun j u hu => ?_,fun j hj => ⟨?_,?_⟩⟩
 ·have hj:j<l.length:=by
   have:=(List.getElem?_eq_some_iff.1 hu).1;rwa [bcells_length] at this
  obtain ⟨x,hx,hcx⟩:=hc j hj;have e:u=.int .u8 (x.toNat:Int):=by
   simp only [bcells,List.getElem?_map,hx,Option.map_some,Option.some.injEq] at hu;exact hu.symm
  simp [World.cell?,hg,hcx,e]
 ·simp [World.cell?,hg,Array.getElem?_eq_getElem (show j<cells.size by omega)]
 ·simp only [World.frozen?,hg];have:¬ (f0<=j):=by omega
  simp [this]
theorem OwnB.br {w:World} {base:Nat} {v:Value} {l:List UInt8} (h:OwnB w base v l) (hl:0<l.length):BR w base v l:=by
 have hlt:=h.lt;have hcs:=fun g hg => World.ownsRow.cells h (g:=g) hg
 rcases h.2 with ⟨rfl,hn⟩ | ⟨g,cap,cur,rfl,hb,hg,h1,h2,h3,h4⟩
 ·omega
 ·refine ⟨g,cap,rfl,hb,h1,by unfold maxLen at h2;omega,(hlt g rfl).2,fun j u hu => ?_,fun j hj => ⟨?_,?_⟩⟩
  ·have:=hcs g rfl j u hu;rw [Addr.add_lit,Nat.zero_add] at this;exact this
  ·simp [World.cell?,hg,Array.getElem?_eq_getElem (show j<cur.size by omega)]
  ·simp only [World.frozen?,hg];simp
theorem BR.kp {w w':World} {S:Nat->Prop} {base:Nat} {v:Value} {l:List UInt8} (h:BR w base v l) (k:Kp S w w') (hS:∀ g,v.ownBlock=some g->¬ S g):BR w' base v l:=by
 obtain ⟨g,cap,rfl,hb,h1,h2,hlt,hc,hf⟩:=h;have hbl:=k.block g hlt (hS g rfl);exact ⟨g,cap,rfl,hb,h1,h2,Nat.lt_of_lt_of_le hlt k.size,fun j u hu => (World.cell?_of_block (a:=⟨g,j,none⟩) hbl).trans (hc j u hu),fun j hj => by rw [World.cell?_of_block (a:=⟨g,j,none⟩) hbl,World.frozen?_of_block (a:=⟨g,j,none⟩) hbl];exact hf j hj⟩
theorem BR.at {w:World} {base g n cap:Nat} {l:List UInt8} (h:BR w base (.slice (some ⟨g,0,none⟩) n cap) l):∀ j u,(bcells l)[j]?=some u->w.cell? ⟨g,j,none⟩=some u:=by
 obtain ⟨g',cap',e,_,_,_,_,hc,_⟩:=h;injection e with e1 _ _;injection e1 with e1;injection e1 with e1 _ _;subst e1;exact hc
theorem BR.mono {w:World} {base base':Nat} {v:Value} {l:List UInt8} (h:BR w base v l) (hb:base'<=base):BR w base' v l:=by
 obtain ⟨g,cap,e,h1,h2⟩:=h;exact ⟨g,cap,e,by omega,h2⟩
def docL (l:List UInt8) (hl:l.length<=1000000):Doc where
 n:=l.length
 c:=fun i => (l[i]?.getD 0).toNat
 lt:=fun i => (l[i]?.getD 0).toNat_lt
 out:=fun i hi => by rw [List.getElem?_eq_none hi];rfl
 small:=by omega
theorem docL_at {w:World} {l:List UInt8} {hl:l.length<=1000000} {g o cap:Nat} (h1:l.length<=cap) (h2:cap<=9223372036854775807) (hlt:g<w.heap.size) (hc:∀ j u,(bcells l)[j]?=some u->w.cell? ⟨g,o+j,none⟩=some u):DocAt (docL l hl) (some ⟨g,o,none⟩) cap w:=by
 refine ⟨h1,h2,.inr ⟨g,o,rfl,hlt,fun i hi => ?_⟩⟩;have hi:i<l.length:=hi;refine hc i _ ?_;show _=some (Value.int .u8 (((l[i]?.getD 0).toNat:Nat):Int));simp [bcells,List.getElem?_eq_getElem hi]
theorem BR.doc {w:World} {base:Nat} {v:Value} {l:List UInt8} (h:BR w base v l) (hl:l.length<=1000000):∃ (D:Doc) (A:Option Addr) (C:Nat),v=.slice A D.n C/\D.n=l.length/\DocAt D A C w/\∀ a,A=some a->a.block<w.heap.size:=by
 obtain ⟨g,cap,rfl,hb,h1,h2,hlt,hc,hf⟩:=h;exact ⟨docL l hl,_,_,rfl,rfl,docL_at h1 h2 hlt (fun j u hu => by rw [Nat.zero_add];exact hc j u hu),fun a ha => by cases ha;exact hlt⟩
theorem info5a:(Tryz.prog.info? 5).map (fun i => (i.zero,i.size,i.bytes))=some (some (.int .u8 0),1,1):=by kernel_rfl
theorem DocAt.cells {D:Doc} {bd o:Nat} {w:World} (h:∀ i,i<D.n->w.cell? ⟨bd,o+i,none⟩=some (.int .u8 (D.c i:Nat))):∀ j u,(bcells D.bytes)[j]?=some u->w.cell? ⟨bd,o+j,none⟩=some u:=fun j u hu => by
 have hj:j<D.bytes.length:=by
  have:=(List.getElem?_eq_some_iff.1 hu).1;rwa [bcells_length] at this
 have hb:=Doc.bytes_get D j hj;simp only [bcells,List.getElem?_map,List.getElem?_eq_getElem hj,Option.map_some,Option.some.injEq] at hu;rw [<- hu,h j (by rw [<- D.bytes_len];exact hj)];rw [hb]
end Go.Proofs.YtpgmddjgcgpoeaaGreat
