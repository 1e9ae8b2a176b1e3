/-
  A part of the proof.
-/
import Derived.Test.YtpgmddjgcgpoeaaGreatD08
import Derived.Deep.RegionLaw
set_option linter.unusedVariables false
set_option linter.unusedSimpArgs false
set_option maxRecDepth 100000
set_option maxHeartbeats 8000000
namespace Go.Proofs.YtpgmddjgcgpoeaaGreat
open Go.RowKit
theorem own_kp {S:Nat->Prop} {w w':World} {base e size:Nat} {v:Value} {n:Nat} {xs:List Value} (h:w.ownsRow base e size v n xs) (k:Kp S w w') (hS:∀ g,v.ownBlock=some g->¬ S g):w'.ownsRow base e size v n xs:=by
 refine ⟨h.1,?_⟩;rcases h.2 with hn | ⟨g,cap,cur,rfl,hb,hg,r⟩
 ·exact .inl hn
 ·refine .inr ⟨g,cap,cur,rfl,hb,?_,r⟩;rw [k.block g (Array.getElem?_eq_some_iff.1 hg).1 (hS g rfl)];exact hg
theorem own_drewN {w:World} {base e size:Nat} {v:Value} {n:Nat} {xs:List Value} (h:w.ownsRow base e size v n xs) (m:Nat):(w.drewN m).ownsRow base e size v n xs:=h
theorem own_drew {w:World} {base e size:Nat} {v:Value} {n:Nat} {xs:List Value} (h:w.ownsRow base e size v n xs):w.drew.ownsRow base e size v n xs:=h
theorem own_alloc {w:World} {base e size:Nat} {v:Value} {n:Nat} {xs:List Value} (h:w.ownsRow base e size v n xs) (o:Obj):(w.alloc o).ownsRow base e size v n xs:=World.ownsRow.alloc h o
theorem own_put {w:World} {base e size:Nat} {v:Value} {n:Nat} {xs:List Value} (h:w.ownsRow base e size v n xs) {a:Addr} (ha:a.block<base) (u:Value):(w.setCell a u).ownsRow base e size v n xs:=ownsRow_setCell_below h ha u
theorem own_mono {w:World} {base base' e size:Nat} {v:Value} {n:Nat} {xs:List Value} (h:w.ownsRow base e size v n xs) (hb:base'<=base):w.ownsRow base' e size v n xs:=by
 refine ⟨h.1,?_⟩;rcases h.2 with hn | ⟨g,cap,cur,hv,hb',r⟩
 ·exact .inl hn
 ·exact .inr ⟨g,cap,cur,hv,by omega,r⟩
theorem own_made {w:World} {b base e size:Nat} (hb:b=w.heap.size) (hle:base<=b):(w.alloc (.cells #[] e)).ownsRow base e size (.slice (some ⟨b,0,none⟩) 0 0) 0 []:=by
 subst hb;exact World.ownsRow_made (size:=size) w #[] 0 hle (by decide) (by simp)
theorem PS.grownL {D:Doc} {bp:Nat} {A:Option Addr} {C:Nat} {w w':World} {at_ st base e size:Nat} {v:Value} {n:Nat} {xs:List Value} (h:PS D bp A C w at_ st) (hown:w.ownsRow base e size v n xs) (hg:w.grownBy w' v.ownBlock) (hb:bp<base) (hA:∀ a,A=some a->a.block<base):PS D bp A C w' at_ st :=
 h.kp (Kp.ofGrown hg) (fun e => by have:=hown.lt bp e.symm;omega) (fun a ha e => by have:=hown.lt a.block e.symm;have:=hA a ha;omega)
theorem Kp.grownL {S:Nat->Prop} {a w w':World} {base e size:Nat} {v:Value} {n:Nat} {xs:List Value} (h:Kp S a w) (hown:w.ownsRow base e size v n xs) (hb:a.heap.size<=base) (hg:w.grownBy w' v.ownBlock):Kp S a w' :=
 h.grown hg (fun k hk => .inr (Nat.le_trans hb (hown.lt k hk).1))
structure ElemT (t e size bytes:Nat):Prop where
 ht:Tryz.prog.underlying t=some (.slice e)
 hi:∃ i z,Tryz.prog.info? e=some i/\i.zero=some z/\i.size=size/\i.bytes=bytes/\z.cells.size=size
 pos:0<size
theorem wp_app {w:World} {o:Oper} {a:Act} {K:Act->World->Prop} {Q:Exit->Act->World->Prop} {t e size bytes:Nat} (T:ElemT t e size bytes) (sl x:Operand)
  (ho:o.op=.call { callee:=.builtin .append,args:=#[sl,x],argTypes:=#[t,t] })
  (base:Nat) (v:Value) (n:Nat) (xs:List Value) (hs:a.eval sl=v) (hown:w.ownsRow base e size v n xs) (b m c:Nat) (hx:a.eval x=.slice (some ⟨b,0,none⟩) m c) (cs:List Value) (hl:cs.length=m * size)
  (hc:∀ j u,cs[j]?=some u->w.cell? ⟨b,j,none⟩=some u) (h1:∀ u ∈ cs,u.oneCell'=true) (hle:(n+m) * bytes<=140737488355328) (hle2:n+m<=140737488355328) (hbase:base<=w.heap.size)
  (h:∀ v' w',w'.ownsRow base e size v' (n+m) (xs++cs)->w.grownBy w' v.ownBlock->K (a.put o.dst v') w'):o.wp Tryz.prog a w K Q:=by
 obtain ⟨i,z,hi,hz,hz1,hz2,hz3⟩:=T.hi;refine wp_append_own w sl x t ho base e i z size bytes T.ht hi hz hz1 hz2 hz3 T.pos v n xs hs hown ⟨b,0,none⟩ m c cs hx hl ?_ h1 (by unfold maxLen;omega) hle hbase (fun v' w' h1 h2 _ => h v' w' h1 h2);intro j u hu;rw [show (⟨b,0,none⟩:Addr).add j=⟨b,j,none⟩ by unfold Addr.add;split <;> simp_all];exact hc j u hu
theorem wpList_app {w:World} {ops:Array Oper} {rest:List Oper} {o:Oper} {a:Act} {Q:Exit->Act->World->Prop} (hgd:o.guard=none) {t e size bytes:Nat} (T:ElemT t e size bytes) (sl x:Operand)
  (ho:o.op=.call { callee:=.builtin .append,args:=#[sl,x],argTypes:=#[t,t] })
  (base:Nat) (v:Value) (n:Nat) (xs:List Value) (hs:a.eval sl=v) (hown:w.ownsRow base e size v n xs) (b m c:Nat) (hx:a.eval x=.slice (some ⟨b,0,none⟩) m c) (cs:List Value) (hl:cs.length=m * size)
  (hc:∀ j u,cs[j]?=some u->w.cell? ⟨b,j,none⟩=some u) (h1:∀ u ∈ cs,u.oneCell'=true) (hle:(n+m) * bytes<=140737488355328) (hle2:n+m<=140737488355328) (hbase:base<=w.heap.size)
  (h:∀ v' w',w'.ownsRow base e size v' (n+m) (xs++cs)->w.grownBy w' v.ownBlock->wpList Tryz.prog ops Q rest (a.put o.dst v') w'):wpList Tryz.prog ops Q (o :: rest) a w :=
 wpList_plain hgd fun _ hK => wp_app T sl x ho base v n xs hs hown b m c hx cs hl hc h1 hle hle2 hbase fun v' w' h2 h3 => hK _ _ (h v' w' h2 h3)
theorem step_app {w:World} {ops:Array Oper} {o:Oper} {a:Act} {K:Act->World->Prop} {Q:Exit->Act->World->Prop} {E:Prop} (hgd:o.guard=none) {t e size bytes:Nat} (T:ElemT t e size bytes) (sl x:Operand)
  (ho:o.op=.call { callee:=.builtin .append,args:=#[sl,x],argTypes:=#[t,t] })
  (base:Nat) (v:Value) (n:Nat) (xs:List Value) (hs:a.eval sl=v) (hown:w.ownsRow base e size v n xs) (b m c:Nat) (hx:a.eval x=.slice (some ⟨b,0,none⟩) m c) (cs:List Value) (hl:cs.length=m * size)
  (hc:∀ j u,cs[j]?=some u->w.cell? ⟨b,j,none⟩=some u) (h1:∀ u ∈ cs,u.oneCell'=true) (hle:(n+m) * bytes<=140737488355328) (hle2:n+m<=140737488355328) (hbase:base<=w.heap.size)
  (h:∀ v' w',w'.ownsRow base e size v' (n+m) (xs++cs)->w.grownBy w' v.ownBlock->K (a.put o.dst v') w') :
  if Region.wanted o (yielded ops a.tmps)=true then Oper.wp Tryz.prog o a w K Q else E:=by
 rw [if_pos (by simp [Region.wanted,hgd])];exact wp_app T sl x ho base v n xs hs hown b m c hx cs hl hc h1 hle hle2 hbase h
theorem info9:(Tryz.prog.info? 9).map (fun i => (i.zero,i.size,i.bytes))=some (some (.string ⟨#[]⟩),1,16):=by kernel_rfl
theorem T40:ElemT 40 9 1 16:=by
 obtain ⟨i,hi,h0,h1,h2⟩:=info_parts info9;exact ⟨Tryz.underlying40,⟨i,_,hi,h0,h1,h2,rfl⟩,by decide⟩
def sv (l:List UInt8):Value:=.string ⟨l.toArray⟩
def OwnS (w:World) (base:Nat) (v:Value) (ks:List (List UInt8)):Prop:=w.ownsRow base 9 1 v ks.length (ks.map sv)
def IsSl (v:Value):Prop:=∃ a l c,v=.slice a l c
theorem IsSl.own {w:World} {base e size:Nat} {v:Value} {n:Nat} {xs:List Value} (h:w.ownsRow base e size v n xs):IsSl v:=by
 rcases h.2 with ⟨rfl,_⟩ | ⟨g,cap,cur,rfl,_⟩
 ·exact ⟨_,_,_,rfl⟩
 ·exact ⟨_,_,_,rfl⟩
def Fresh (w:World) (v v':Value):Prop:=v'.ownBlock=v.ownBlock\/∀ g,v'.ownBlock=some g->w.heap.size<=g
theorem run_app {P:Program} {w:World} (base:Nat) (t ty e:TypeId) (i:TypeInfo) (z:Value) (size bytes:Nat) (ht:P.underlying t=some (.slice e)) (hi:P.info? e=some i) (hz:i.zero=some z)
  (hsize:i.size=size) (hby:i.bytes=bytes) (hzs:z.cells.size=size) (hsz:0<size) (v:Value) (n:Nat) (xs:List Value) (hown:w.ownsRow base e size v n xs)
  (a:Addr) (m c:Nat) (news:List Value) (hl:news.length=m * size) (hnews:∀ j u,news[j]?=some u->w.cell? (a.add j)=some u) (h1:∀ u ∈ news,u.oneCell'=true)
  (h63:n+m<=140737488355328) (hbytes:(n+m) * bytes<=140737488355328) (hbase:base<=w.heap.size) :
  ∃ v' w',(Builtin.append_ #[t,t] ty #[v,.slice (some a) m c]).run P w=.ok v' w'/\w'.ownsRow base e size v' (n+m) (xs++news)/\w.grownBy w' v.ownBlock/\Fresh w v v':=by
 have h63':n+m<=maxLen:=by unfold maxLen;omega
 obtain ⟨v',w',hr,ho,hg,_⟩:=run_append_own w base t ty e i z size bytes ht hi hz hsize hby hzs hsz v n xs hown a m c news hl hnews h1 h63' hbytes hbase;refine ⟨v',w',hr,ho,hg,?_⟩;rcases hown.2 with ⟨rfl,rfl⟩ | ⟨g,cap,cur,rfl,hbg,hcur,hnc,hcm,hcs,htake⟩
 ·have hx:xs=[]:=List.eq_nil_of_length_eq_zero (by simpa using hown.1);subst hx;obtain ⟨v2,w2,hr2,ho2,_,_⟩:=run_append_own w w.heap.size t ty e i z size bytes ht hi hz hsize hby hzs hsz (.slice none 0 0) 0 [] (World.ownsRow_nil w _ _ _) a m c news hl hnews h1 h63' hbytes (qqr _);rw [hr] at hr2;injection hr2 with e1 e2;subst e1;exact .inr fun g hg => (ho2.lt g hg).1
 ·by_cases hroom:n+m<=cap
  ·have hfit:n * i.size+news.length<=cur.size:=(by rw [hl,hcs,hsize,<- Nat.add_mul];exact Nat.mul_le_mul_right _ hroom);have hr2:=run_append_room (P:=P) w t ty e i ht hi g n cap cur (by subst hsize;exact hcur) a m c news (by rw [hsize];exact hl) hnews h1 hroom hfit;rw [hr] at hr2;injection hr2 with e1 e2;subst e1;exact .inl rfl
  ·subst hsize;subst hby
   have holds:∀ j u,xs[j]?=some u->w.cell? ((⟨g,0,none⟩:Addr).add j)=some u:=hown.cells (g:=g) rfl;have hr2:=run_append_grow (P:=P) w t ty e i z ht hi hz ⟨g,0,none⟩ n cap xs hown.1 holds a m c news hl hnews (by omega) (by omega) (growslice_fits (by omega) hbytes);rw [hr] at hr2;injection hr2 with e1 e2;subst e1;exact .inr fun g' hg' => by simp [Value.ownBlock] at hg';omega
theorem wp_appF {w:World} {o:Oper} {a:Act} {K:Act->World->Prop} {Q:Exit->Act->World->Prop} {t e size bytes:Nat} (T:ElemT t e size bytes) (sl x:Operand)
  (ho:o.op=.call { callee:=.builtin .append,args:=#[sl,x],argTypes:=#[t,t] })
  (base:Nat) (v:Value) (n:Nat) (xs:List Value) (hs:a.eval sl=v) (hown:w.ownsRow base e size v n xs) (b m c:Nat) (hx:a.eval x=.slice (some ⟨b,0,none⟩) m c) (cs:List Value) (hl:cs.length=m * size)
  (hc:∀ j u,cs[j]?=some u->w.cell? ⟨b,j,none⟩=some u) (h1:∀ u ∈ cs,u.oneCell'=true) (hle:(n+m) * bytes<=140737488355328) (hle2:n+m<=140737488355328) (hbase:base<=w.heap.size)
  (h:∀ v' w',w'.ownsRow base e size v' (n+m) (xs++cs)->w.grownBy w' v.ownBlock->Fresh w v v'->K (a.put o.dst v') w'):o.wp Tryz.prog a w K Q:=by
 obtain ⟨i,z,hi,hz,hz1,hz2,hz3⟩:=T.hi;obtain ⟨v',w',hr,h2,h3,h4⟩:=run_app (P:=Tryz.prog) (w:=w) base t o.type e i z size bytes T.ht hi hz hz1 hz2 hz3 T.pos v n xs hown ⟨b,0,none⟩ m c cs hl
  (by intro j u hu;rw [show (⟨b,0,none⟩:Addr).add j=⟨b,j,none⟩ by unfold Addr.add;split <;> simp_all];exact hc j u hu) h1 hle2 hle hbase
 unfold Oper.wp;simp [execOp,ho,resolve,invoke,builtin,hs,hx,hr,Result.andThen];exact h v' w' h2 h3 h4
theorem step_appF {w:World} {ops:Array Oper} {o:Oper} {a:Act} {K:Act->World->Prop} {Q:Exit->Act->World->Prop} {E:Prop} (hgd:o.guard=none) {t e size bytes:Nat} (T:ElemT t e size bytes) (sl x:Operand)
  (ho:o.op=.call { callee:=.builtin .append,args:=#[sl,x],argTypes:=#[t,t] })
  (base:Nat) (v:Value) (n:Nat) (xs:List Value) (hs:a.eval sl=v) (hown:w.ownsRow base e size v n xs) (b m c:Nat) (hx:a.eval x=.slice (some ⟨b,0,none⟩) m c) (cs:List Value) (hl:cs.length=m * size)
  (hc:∀ j u,cs[j]?=some u->w.cell? ⟨b,j,none⟩=some u) (h1:∀ u ∈ cs,u.oneCell'=true) (hle:(n+m) * bytes<=140737488355328) (hle2:n+m<=140737488355328) (hbase:base<=w.heap.size)
  (h:∀ v' w',w'.ownsRow base e size v' (n+m) (xs++cs)->w.grownBy w' v.ownBlock->Fresh w v v'->K (a.put o.dst v') w') :
  if Region.wanted o (yielded ops a.tmps)=true then Oper.wp Tryz.prog o a w K Q else E:=by
 rw [if_pos (by simp [Region.wanted,hgd])];exact wp_appF T sl x ho base v n xs hs hown b m c hx cs hl hc h1 hle hle2 hbase h
theorem wpList_appF {w:World} {ops:Array Oper} {rest:List Oper} {o:Oper} {a:Act} {Q:Exit->Act->World->Prop} (hgd:o.guard=none) {t e size bytes:Nat} (T:ElemT t e size bytes) (sl x:Operand)
  (ho:o.op=.call { callee:=.builtin .append,args:=#[sl,x],argTypes:=#[t,t] })
  (base:Nat) (v:Value) (n:Nat) (xs:List Value) (hs:a.eval sl=v) (hown:w.ownsRow base e size v n xs) (b m c:Nat) (hx:a.eval x=.slice (some ⟨b,0,none⟩) m c) (cs:List Value) (hl:cs.length=m * size)
  (hc:∀ j u,cs[j]?=some u->w.cell? ⟨b,j,none⟩=some u) (h1:∀ u ∈ cs,u.oneCell'=true) (hle:(n+m) * bytes<=140737488355328) (hle2:n+m<=140737488355328) (hbase:base<=w.heap.size)
  (h:∀ v' w',w'.ownsRow base e size v' (n+m) (xs++cs)->w.grownBy w' v.ownBlock->Fresh w v v'->wpList Tryz.prog ops Q rest (a.put o.dst v') w'):wpList Tryz.prog ops Q (o :: rest) a w :=
 wpList_plain hgd fun _ hK => wp_appF T sl x ho base v n xs hs hown b m c hx cs hl hc h1 hle hle2 hbase fun v' w' h2 h3 h4 => hK _ _ (h v' w' h2 h3 h4)
end Go.Proofs.YtpgmddjgcgpoeaaGreat
