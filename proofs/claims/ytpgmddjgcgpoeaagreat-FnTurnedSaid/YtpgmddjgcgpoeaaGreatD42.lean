/-
  A part of the proof.
-/
import Derived.Test.YtpgmddjgcgpoeaaGreatD40
import Derived.Test.YtpgmddjgcgpoeaaGreatD21
set_option linter.unusedVariables false
set_option linter.unusedSimpArgs false
set_option maxRecDepth 100000
set_option maxHeartbeats 8000000
namespace Go.Proofs.YtpgmddjgcgpoeaaGreat
open Go.RowKit
abbrev Six:=Value × Value × Quad
def Six.cs (q:Six):List Value:=[q.1,q.2.1,q.2.2.1,q.2.2.2.1,q.2.2.2.2.1,q.2.2.2.2.2]
def sixes (l:List Six):List Value:=l.flatMap Six.cs
theorem sixes_snoc (l:List Six) (q:Six):sixes (l++[q])=sixes l++q.cs:=by simp [sixes]
theorem sixes_get:∀ (l:List Six) (i:Nat) (h:i<l.length) (j:Nat),j<6->(sixes l)[i * 6+j]?=l[i].cs[j]?
 | q :: l,0,_,j,hj => by
  show (q.cs++sixes l)[0 * 6+j]?=q.cs[j]?;rw [Nat.zero_mul,Nat.zero_add,List.getElem?_append_left (by show j<6;omega)]
 | q :: l,i+1,h,j,hj => by
  have h':i<l.length:=Nat.lt_of_succ_lt_succ h;refine Eq.trans ?_ (sixes_get l i h' j hj);show (q.cs++sixes l)[_]?=_;rw [List.getElem?_append_right (by show 6<=_;omega)]
  congr 1
  show (i+1) * 6+j - 6=_;omega
def ExpAt (w:World) (S:Nat->Prop) (q:Six):Prop:=(∃ k:Int,q.1=.int .i64 k)/\KeysAt w S q.2.1/\ValAt w S 3 q.2.2.v
theorem ExpAt.kp {w w':World} {S T:Nat->Prop} {q:Six} (h:ExpAt w S q) (k:Kp T w w') (hS:∀ b,S b->¬ T b):ExpAt w' S q:=⟨h.1,h.2.1.kp k hS,h.2.2.kp k hS⟩
theorem ExpAt.mono {w:World} {S T:Nat->Prop} {q:Six} (h:ExpAt w S q) (hS:∀ b,S b->T b):ExpAt w T q:=⟨h.1,h.2.1.mono hS,h.2.2.mono hS⟩
def DocsAt (w:World) (S:Nat->Prop) (v:Value):Prop :=
 ∃ (a:Option Addr) (n c:Nat),v=.slice a n c/\n<=12/\∀ i,i<n->∃ (b:Nat) (q:Six),a=some ⟨b,0,none⟩/\S b/\ExpAt w S q/\∀ j,j<6->w.cell? ⟨b,i * 6+j,none⟩=q.cs[j]?
theorem DocsAt.kp {w w':World} {S T:Nat->Prop} {v:Value} (h:DocsAt w S v) (k:Kp T w w') (hS:∀ b,S b->¬ T b):DocsAt w' S v:=by
 obtain ⟨a,n,c,rfl,hn,hi⟩:=h;refine ⟨a,n,c,rfl,hn,fun i h => ?_⟩;obtain ⟨b,q,ea,hb,hq,hc⟩:=hi i h;refine ⟨b,q,ea,hb,hq.kp k hS,fun j hj => ?_⟩;have h6:j<q.cs.length:=hj;have:=hc j hj;rw [List.getElem?_eq_getElem h6] at this ⊢;exact cell_kp this k (hS b hb)
def NumIn (w:World) (A:Option Addr) (n:Nat):Prop:=∀ i,i<n->∃ (b o x:Nat),A=some ⟨b,o,none⟩/\x<4294967296/\w.cell? ⟨b,o+i,none⟩=some (.int .u32 x)
def PartX (w:World) (xv:Value) (W:World) (b:Nat):Prop:=w.heap.size<=b/\b<W.heap.size/\some b ≠ xv.ownBlock/\b ≠ w.heap.size+1
structure XL (w:World) (acc:List Six) (xv:Value) (a':Nat) (W:World):Prop where
 kp:Kp Nil w W
 at_:Blk W (w.heap.size+1) [.int .i64 a'] 3
 own:W.ownsRow w.heap.size 45 6 xv acc.length (sixes acc)
 ne:xv.ownBlock ≠ some (w.heap.size+1)
 val:∀ q ∈ acc,ExpAt W (PartX w xv W) q
section
variable {w W W2:World} {a' a'':Nat} {acc:List Six} {xv v':Value}
theorem PartX.mono (h:W.heap.size<=W2.heap.size) (b:Nat) (hb:PartX w xv W b):PartX w xv W2 b:=⟨hb.1,Nat.lt_of_lt_of_le hb.2.1 h,hb.2.2⟩
theorem XL.call (h:XL w acc xv a' W) (hk:Kp (Only (w.heap.size+1)) W W2) (hb:Blk W2 (w.heap.size+1) [.int .i64 a''] 3):XL w acc xv a'' W2:=by
 refine ⟨Kp.then h.kp hk (fun i (e:i=_) => .inr (by omega)),hb,own_kp h.own hk (fun g e (x:g=_) => h.ne (by rw [e,x])),h.ne,fun q hq => ?_⟩;exact ExpAt.mono (ExpAt.kp (h.val q hq) hk (fun b hb (x:b=_) => hb.2.2.2 x)) (PartX.mono hk.size)
theorem XL.nil (h:XL w acc xv a' W) (hk:Kp Nil W W2):XL w acc xv a' W2:=h.call hk.toO (h.at_.kpNil hk)
theorem XL.in_ (h:XL w acc xv a' W) (b:Nat) (hb:W.heap.size<=b/\b<W2.heap.size):PartX w xv W2 b:=by
 have h1:=h.at_.lt;refine ⟨by omega,hb.2,fun e => ?_,by omega⟩;have:=(World.ownsRow.lt h.own b e.symm).2;omega
theorem XL.push {q:Six} (h:XL w acc xv a' W) (hq:ExpAt W (PartX w xv W) q) (hown:W2.ownsRow w.heap.size 45 6 v' (acc.length+1) (sixes acc++q.cs)) (hg:W.grownBy W2 xv.ownBlock) (hf:Fresh W xv v'):XL w (acc++[q]) v' a' W2:=by
 have hol:=World.ownsRow.lt h.own;have kg:=Kp.ofGrown hg;refine ⟨Kp.then h.kp kg (fun i e => .inr (hol i e.symm).1),h.at_.kp kg (fun e => h.ne e.symm),?_,fun e => ?_,fun r hr => ?_⟩
 ·rw [sixes_snoc,qqa];exact hown
 ·rcases hf with x | x
  ·exact h.ne (x.symm.trans e)
  ·have:=x _ e;have:=h.at_.lt;omega
 ·have hr2:ExpAt W (PartX w xv W) r:=by
   rcases List.mem_append.1 hr with x | x
   ·exact h.val r x
   ·rw [List.mem_singleton.1 x];exact hq
  refine ExpAt.mono (ExpAt.kp hr2 kg (fun b hb e => hb.2.2.1 e)) (fun b hb => ⟨hb.1,Nat.lt_of_lt_of_le hb.2.1 kg.size,fun e => ?_,hb.2.2.2⟩);rcases hf with x | x
  ·exact hb.2.2.1 (e.trans x)
  ·have:=x b e.symm;have:=hb.2.1;omega
theorem XL.kp7 {w6:World} {o:Obj} {u2 u3 u4 u5:Value} (_:XL w acc xv a' W) (hk:Kp (Only (w.heap.size+1)) (W.alloc o) w6) :
  Kp (Only (w.heap.size+1)) W ((((w6.setCell ⟨W.heap.size,2,none⟩ u2).setCell ⟨W.heap.size,3,none⟩ u3).setCell ⟨W.heap.size,4,none⟩ u4).setCell ⟨W.heap.size,5,none⟩ u5) :=
 Kp.setCell (Kp.setCell (Kp.setCell (Kp.setCell (Kp.trans ((Kp.refl _ W).alloc o) hk) (.inr (qqr _)) _) (.inr (qqr _)) _) (.inr (qqr _)) _) (.inr (qqr _)) _
theorem XL.part7 {w6:World} {o:Obj} {u2 u3 u4 u5:Value} (h:XL w acc xv a' W) (hk:Kp (Only (w.heap.size+1)) (W.alloc o) w6) (hb:Blk w6 (w.heap.size+1) [.int .i64 a''] 3) :
  XL w acc xv a'' ((((w6.setCell ⟨W.heap.size,2,none⟩ u2).setCell ⟨W.heap.size,3,none⟩ u3).setCell ⟨W.heap.size,4,none⟩ u4).setCell ⟨W.heap.size,5,none⟩ u5):=by
 have hlt:=h.at_.lt;refine h.call (h.kp7 hk) (hb.kpOnly (c:=W.heap.size) (Kp.putOnly (Kp.putOnly (Kp.putOnly (Kp.putOnly (Kp.refl _ _) _) _) _) _) (by omega))
theorem XL.exp7 {w6:World} {cs:Array Value} {t:TypeId} {v0 v1 v2 v3 ky:Value} {k':Int} (h:XL w acc xv a' W) (hq:KeysAt W (PartX w xv W) ky) (hk:Kp (Only (w.heap.size+1)) (W.alloc (.cells cs t)) w6)
  (hv:ValAt w6 (fun b => (W.alloc (.cells cs t)).heap.size<=b/\b<w6.heap.size) 3 (.agg #[v0,v1,v2,v3])) :
  ExpAt ((((w6.setCell ⟨W.heap.size,2,none⟩ v0).setCell ⟨W.heap.size,3,none⟩ v1).setCell ⟨W.heap.size,4,none⟩ v2).setCell ⟨W.heap.size,5,none⟩ v3)
   (PartX w xv ((((w6.setCell ⟨W.heap.size,2,none⟩ v0).setCell ⟨W.heap.size,3,none⟩ v1).setCell ⟨W.heap.size,4,none⟩ v2).setCell ⟨W.heap.size,5,none⟩ v3)) (.int .i64 k',ky,v0,v1,v2,v3):=by
 have k7:=h.kp7 (u2:=v0) (u3:=v1) (u4:=v2) (u5:=v3) hk;have k67:Kp (Only W.heap.size) w6 ((((w6.setCell ⟨W.heap.size,2,none⟩ v0).setCell ⟨W.heap.size,3,none⟩ v1).setCell ⟨W.heap.size,4,none⟩ v2).setCell ⟨W.heap.size,5,none⟩ v3):=Kp.putOnly (Kp.putOnly (Kp.putOnly (Kp.putOnly (Kp.refl _ _) _) _) _) _;rw [World.size_alloc] at hv;refine ⟨⟨_,rfl⟩,KeysAt.mono (hq.kp k7 (fun b hb (x:b=_) => hb.2.2.2 x)) (PartX.mono k7.size),ValAt.mono (fun b hb => h.in_ b ⟨by have:=hb.1;omega,Nat.lt_of_lt_of_le hb.2 k67.size⟩) (ValAt.kp k67 (fun b hb (x:b=_) => by have:=hb.1;omega) hv)⟩
theorem XL.docs (h:XL w acc xv a' W) (hl:acc.length<=12):DocsAt W (fun b => w.heap.size<=b/\b<W.heap.size) xv:=by
 have hlt:=World.ownsRow.lt h.own;have hown:=h.own;rcases h.own.2 with ⟨rfl,hn⟩ | ⟨g,cap,cur,rfl,_⟩
 ·exact ⟨none,0,0,rfl,by omega,fun i h => by omega⟩
 ·refine ⟨_,_,_,rfl,hl,fun i hi => ⟨g,acc[i],rfl,hlt g rfl,ExpAt.mono (h.val _ (List.getElem_mem hi)) (fun b hb => ⟨hb.1,hb.2.1⟩),fun j hj => ?_⟩⟩;have h6:j<acc[i].cs.length:=hj;have r:=sixes_get acc i hi j hj;rw [List.getElem?_eq_getElem h6] at r ⊢;have:=World.ownsRow.cells hown (g:=g) rfl _ _ r;rw [Addr.add_lit,Nat.zero_add] at this;exact this
end
def DocR (w:World) (e:Ending) (w':World):Prop:=∃ v:Value,e=.returned v/\DocsAt w' (fun b => w.heap.size<=b/\b<w'.heap.size) v/\Kp Nil w w'
theorem NumIn.at_ {w W:World} {ab n:Nat} {A:Option Addr} (h:NumIn w A n) (k:Kp Nil w W) (hab:w.heap.size<=ab):NumAt W ab A n:=fun j hj => by
 obtain ⟨b,o,x,e,hx,hc⟩:=h j hj;have hb:b<w.heap.size:=World.block_lt_of_cell? (w:=w) (a:=⟨b,o+j,none⟩) hc;exact ⟨b,o,x,e,by omega,hx,cell_kp hc k (fun h => h)⟩
theorem value3_c (A:Option Addr) (n C ab a:Nat) (w:World) (hn:NumAt w ab A n) (hb:Blk w ab [.int .i64 a] 3) (ha:a+40<=100000):Calls Tryz.prog 18 #[.slice A n C,.pointer (some ⟨ab,0,none⟩),.int .i64 3] w (ValR ab 3 a w) :=
 value_c A n C ab 3 (by omega) a w hn hb (by have:takes 3=40:=rfl;omega)
theorem document_c (A:Option Addr) (n C:Nat) (w:World) (hn:NumIn w A n):Calls Tryz.prog 8 #[.slice A n C] w (DocR w):=by
 have htk:takes 3=40:=rfl;have HN:=qqh hn;have hX0:Hid (XL w [] (.slice (some ⟨w.heap.size,0,none⟩) 0 0) 0 ((w.alloc (.cells #[] 45)).alloc (.cells #[.int .i64 0] 3))):=by
  refine ⟨((Kp.refl _ _).alloc _).alloc _,?_,own_alloc (own_made rfl (qqr _)) _,by simp [Value.ownBlock],fun q hq => by simp at hq⟩;have:=Blk.new (w.alloc (.cells #[] 45)) [.int .i64 0] 3;rw [World.size_alloc] at this;exact this
 clear hn;go_enter Tryz.func8,Tryz.ntmps8;go_wp2_with fail
 go_loopw [3,8] (fun x y wr => ∃ (acc:List Six) (i a':Nat),y=.int .i64 i/\i<=12/\acc.length<=i/\a'<=41 * i/\Hid (XL w acc x a' wr)) (fun _ y _ => 12 - (intOf y).toNat)
 case atStart => exact ⟨[],0,0,rfl,by omega,by simp,by omega,hX0⟩
 case round =>
  obtain ⟨acc,i,a,rfl,hi,hacc,ha,hX⟩:=hrel;obtain ⟨sa,sl,sc,rfl⟩:=IsSl.own hX.out.own;obtain rfl:=own_len hX.out.own;have c0:=hX.out.at_.cell 0 rfl;have f0:=hX.out.at_.free 0;have hlen:=hX.out.at_.lt;by_cases hi12:i<12
  ·have hi1:(i:Int)<12:=(by omega);by_cases han:a<n
   ·have han1:(a:Int)<n:=(by omega);obtain ⟨b,o,x,rfl,hx,hc0⟩:=HN.out a han;have hbw:b<w.heap.size:=World.block_lt_of_cell? (w:=w) (a:=⟨b,o+a,none⟩) hc0;have hc:=cell_kp hc0 hX.out.kp (fun h => h);clear hc0;have m2:IntKind.i64.wrap ((a:Int)+1)=(a:Int)+1:=IntWalk.i64_in _ (by omega);have hbe:b ≠ w.heap.size+1:=(by omega);have hX1:Hid (XL w acc (.slice sa acc.length sc) (a+1) (wr.setCell ⟨w.heap.size+1,0,none⟩ (.int .i64 ((a:Int)+1)))):=hX.out.call (Kp.putOnly (Kp.refl _ _) _) (hX.out.at_.putE 0 _ (by push_cast;rfl));obtain ⟨b0,hb0⟩:∃ c,((x:Int) % 5 == 0)=c:=⟨_,rfl⟩;obtain ⟨b1,hb1⟩:∃ c,((x:Int) % 5 == 1)=c:=⟨_,rfl⟩;cases b0
    ·cases b1
     ·go_wp2_with (first
       | (go_at_call 17;refine (keysOf_i _ _ (by omega) (by omega)).mono ?_;rintro e3 w3 ⟨kv,rfl,hkv,hk3⟩;obtain ⟨xa,xn,xc,rfl,hxx⟩:=id hkv;have hX3:=qqh (hX1.out.nil hk3);have hQ3:=qqh (KeysAt.mono hkv (hX1.out.in_ (W2:=w3)));clear hkv hk3 hxx)
       | (go_at_call 18;(with_reducible refine (value3_c _ n C (w.heap.size+1) (a+1) _ ?hna ?hbl ?hle).mono ?_);(case hna => exact HN.out.at_ (hX3.out.kp.alloc _) (Nat.le_succ _));(case hbl => exact hX3.out.at_.alloc _);(case hle => omega);rintro e6 w6 ⟨v,a3,rfl,hv3,hb3,ha3,ha4,hk6⟩;obtain ⟨k0,s0,ia,il,ic,ka,kl,kc,rfl⟩:=hv3.form;have hV6:=qqh hv3;have hB6:=qqh hb3;have hK6:=qqh hk6;have hE6:=qqh ((Blk.new w3 [.int .i64 0,.slice xa xn xc,.int .i64 0,.string ⟨#[]⟩,.slice none 0 0,.slice none 0 0] 45).kpOnly hk6 (by have:=hX3.out.at_.lt;omega));have e0:=hE6.out.cell 0 rfl;have e1:=hE6.out.cell 1 rfl;have e2:=hE6.out.cell 2 rfl;have e3:=hE6.out.cell 3 rfl;have e4:=hE6.out.cell 4 rfl;have e5:=hE6.out.cell 5 rfl;have g2:=hE6.out.free 2;have g3:=hE6.out.free 3;have g4:=hE6.out.free 4;have g5:=hE6.out.free 5;have hX7:=qqh (XL.part7 hX3.out hk6 hb3 (u2:=.int .i64 k0) (u3:=.string s0) (u4:=.slice ia il ic) (u5:=.slice ka kl kc));have hQ7:=qqh (XL.exp7 (k':=0) hX3.out hQ3.out hk6 hv3);clear hv3 hb3 hk6)
       | (at_builtin;refine wpList_appF rfl T26 _ _ rfl w.heap.size _ acc.length (sixes acc) rfl (by exact own_alloc hX7.out.own _) w6.heap.size 1 _ rfl [.int .i64 0,.slice xa xn xc,.int .i64 k0,.string s0,.slice ia il ic,.slice ka kl kc] rfl (fun j u hu => by change ((World.setCell _ _ _).alloc _).cell? ⟨w6.heap.size,j,none⟩=some u;rw [wcellN (by simp)];simpa using hu) (by intro u hu;simp at hu;rcases hu with rfl | rfl | rfl | rfl | rfl | rfl <;> rfl) (by omega) (by omega) (by have:=hX7.out.at_.lt;simp at this;simp;omega) ?_))
      intro v' w8 hown8 hg8 hfr8;have HX8:=qqh (XL.push (q:=(Value.int .i64 0,Value.slice xa xn xc,Value.int .i64 k0,Value.string s0,Value.slice ia il ic,Value.slice ka kl kc)) (hX7.out.nil ((Kp.refl _ _).alloc _)) (ExpAt.mono (ExpAt.kp hQ7.out ((Kp.refl Nil _).alloc _) (fun _ _ x => x)) (PartX.mono (by simp))) hown8 hg8 hfr8);clear hown8 hg8 hfr8;go_wp2_with fail
      go_roundw
      case rel => exact ⟨_,i+1,a3,by go_num,by omega,by simp;omega,by omega,HX8⟩
      case measure => simp [intOf];omega
     ·go_wp2_with (first
       | (go_at_call 17;refine (keysOf_i _ _ (by omega) (by omega)).mono ?_;rintro e3 w3 ⟨kv,rfl,hkv,hk3⟩;obtain ⟨xa,xn,xc,rfl,hxx⟩:=id hkv;have hX3:=qqh (hX1.out.nil hk3);have hQ3:=qqh (KeysAt.mono hkv (hX1.out.in_ (W2:=w3)));clear hkv hk3 hxx)
       | (at_builtin;refine wpList_appF rfl T26 _ _ rfl w.heap.size _ acc.length (sixes acc) rfl (by exact own_alloc (own_alloc hX3.out.own _) _) (w3.heap.size+1) 1 _ rfl [.int .i64 2,.slice xa xn xc,.int .i64 0,.string ⟨#[]⟩,.slice none 0 0,.slice none 0 0] rfl (fun j u hu => by change ((w3.alloc _).alloc _).cell? ⟨w3.heap.size+1,j,none⟩=some u;rw [wcellN (by simp)];simpa using hu) (by intro u hu;simp at hu;rcases hu with rfl | rfl | rfl | rfl | rfl | rfl <;> rfl) (by omega) (by omega) (by have:=hX3.out.at_.lt;simp;omega) ?_))
      intro v' w8 hown8 hg8 hfr8;have hkk:Kp Nil w3 ((w3.alloc (.cells #[.int .i64 2,.slice xa xn xc,.int .i64 0,.string ⟨#[]⟩,.slice none 0 0,.slice none 0 0] 45)).alloc (.cells #[.int .i64 2,.slice xa xn xc,.int .i64 0,.string ⟨#[]⟩,.slice none 0 0,.slice none 0 0] 45)):=((Kp.refl _ _).alloc _).alloc _;have HX8:=qqh (XL.push (q:=(Value.int .i64 2,Value.slice xa xn xc,Value.int .i64 0,Value.string ⟨#[]⟩,Value.slice none 0 0,Value.slice none 0 0)) (hX3.out.nil hkk) ⟨⟨_,rfl⟩,KeysAt.mono (hQ3.out.kp hkk (fun _ _ h => h)) (PartX.mono hkk.size),ValAt.scal _ _ 3 0 (by show 0<=32;omega) (KeysAt.nil _ _ _ _)⟩ hown8 hg8 hfr8);clear hown8 hg8 hfr8;go_wp2_with fail
      go_roundw
      case rel => exact ⟨_,i+1,a+1,by go_num,by omega,by simp;omega,by omega,HX8⟩
      case measure => simp [intOf];omega
    ·go_wp2_with (first
      | (go_at_call 17;refine (keysOf_i _ _ (by omega) (by omega)).mono ?_;rintro e3 w3 ⟨kv,rfl,hkv,hk3⟩;obtain ⟨xa,xn,xc,rfl,hxx⟩:=id hkv;have hX3:=qqh (hX1.out.nil hk3);have hQ3:=qqh (KeysAt.mono hkv (hX1.out.in_ (W2:=w3)));clear hkv hk3 hxx)
      | (at_builtin;refine wpList_appF rfl T26 _ _ rfl w.heap.size _ acc.length (sixes acc) rfl (by exact own_alloc (own_alloc hX3.out.own _) _) (w3.heap.size+1) 1 _ rfl [.int .i64 1,.slice xa xn xc,.int .i64 0,.string ⟨#[]⟩,.slice none 0 0,.slice none 0 0] rfl (fun j u hu => by change ((w3.alloc _).alloc _).cell? ⟨w3.heap.size+1,j,none⟩=some u;rw [wcellN (by simp)];simpa using hu) (by intro u hu;simp at hu;rcases hu with rfl | rfl | rfl | rfl | rfl | rfl <;> rfl) (by omega) (by omega) (by have:=hX3.out.at_.lt;simp;omega) ?_))
     intro v' w8 hown8 hg8 hfr8;have hkk:Kp Nil w3 ((w3.alloc (.cells #[.int .i64 1,.slice xa xn xc,.int .i64 0,.string ⟨#[]⟩,.slice none 0 0,.slice none 0 0] 45)).alloc (.cells #[.int .i64 1,.slice xa xn xc,.int .i64 0,.string ⟨#[]⟩,.slice none 0 0,.slice none 0 0] 45)):=((Kp.refl _ _).alloc _).alloc _;have HX8:=qqh (XL.push (q:=(Value.int .i64 1,Value.slice xa xn xc,Value.int .i64 0,Value.string ⟨#[]⟩,Value.slice none 0 0,Value.slice none 0 0)) (hX3.out.nil hkk) ⟨⟨_,rfl⟩,KeysAt.mono (hQ3.out.kp hkk (fun _ _ h => h)) (PartX.mono hkk.size),ValAt.scal _ _ 3 0 (by show 0<=32;omega) (KeysAt.nil _ _ _ _)⟩ hown8 hg8 hfr8);clear hown8 hg8 hfr8;go_wp2_with fail
     go_roundw
     case rel => exact ⟨_,i+1,a+1,by go_num,by omega,by simp;omega,by omega,HX8⟩
     case measure => simp [intOf];omega
   ·have han1:¬ ((a:Int)<n):=(by omega);go_wp2_with fail
    go_ret;exact ⟨_,rfl,hX.out.docs (by omega),hX.out.kp⟩
  ·have hi1:¬ ((i:Int)<12):=(by omega);go_wp2_with fail
   go_ret;exact ⟨_,rfl,hX.out.docs (by omega),hX.out.kp⟩
end Go.Proofs.YtpgmddjgcgpoeaaGreat
