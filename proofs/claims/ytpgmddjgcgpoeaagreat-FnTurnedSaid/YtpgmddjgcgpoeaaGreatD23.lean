/-
  A part of the proof.
-/
import Derived.Test.YtpgmddjgcgpoeaaGreatD20
import Derived.Test.YtpgmddjgcgpoeaaGreatD13
import Derived.Test.YtpgmddjgcgpoeaaGreatD10
set_option linter.unusedVariables false
set_option linter.unusedSimpArgs false
set_option maxRecDepth 100000
set_option maxHeartbeats 8000000
namespace Go.Proofs.YtpgmddjgcgpoeaaGreat
open Go.RowKit
def ValAt (w:World) (S:Nat->Prop):Nat->Value->Prop
 | 0,v => ∃ (k:Int) (s:ByteArray) (a:Option Addr) (c:Nat) (ky:Value),v=.agg #[.int .i64 k,.string s,.slice a 0 c,ky]/\s.size<=32/\KeysAt w S ky
 | d+1,v => ∃ (k:Int) (s:ByteArray) (a:Option Addr) (n c:Nat) (ky:Value),v=.agg #[.int .i64 k,.string s,.slice a n c,ky]/\s.size<=32/\KeysAt w S ky/\n<=3 /\
   ∀ i,i<n->∃ (b:Nat) (c0 c1 c2 c3:Value),a=some ⟨b,0,none⟩/\S b/\w.cell? ⟨b,i * 4,none⟩=some c0/\w.cell? ⟨b,i * 4+1,none⟩=some c1/\w.cell? ⟨b,i * 4+2,none⟩=some c2/\w.cell? ⟨b,i * 4+3,none⟩=some c3/\ValAt w S d (.agg #[c0,c1,c2,c3])
theorem cell_kp {w w':World} {T:Nat->Prop} {a:Addr} {v:Value} (h:w.cell? a=some v) (k:Kp T w w') (hT:¬ T a.block):w'.cell? a=some v :=
 (World.cell?_of_block (k.block a.block (World.block_lt_of_cell? (w:=w) (a:=a) h) hT)).trans h
theorem ValAt.kp {w w':World} {S T:Nat->Prop} (k:Kp T w w') (hS:∀ b,S b->¬ T b):∀ {d:Nat} {v:Value},ValAt w S d v->ValAt w' S d v
 | 0,_,⟨k0,s,a,c,ky,e,hs,hk⟩ => ⟨k0,s,a,c,ky,e,hs,hk.kp k hS⟩
 | d+1,_,⟨k0,s,a,n,c,ky,e,hs,hk,hn,hi⟩ => ⟨k0,s,a,n,c,ky,e,hs,hk.kp k hS,hn,fun i h => by
   obtain ⟨b,c0,c1,c2,c3,ea,hb,h0,h1,h2,h3,hv⟩:=hi i h
   exact ⟨b,c0,c1,c2,c3,ea,hb,cell_kp h0 k (hS b hb),cell_kp h1 k (hS b hb),cell_kp h2 k (hS b hb),cell_kp h3 k (hS b hb),ValAt.kp k hS hv⟩⟩
theorem ValAt.mono {w:World} {S T:Nat->Prop} (hS:∀ b,S b->T b):∀ {d:Nat} {v:Value},ValAt w S d v->ValAt w T d v
 | 0,_,⟨k0,s,a,c,ky,e,hs,hk⟩ => ⟨k0,s,a,c,ky,e,hs,hk.mono hS⟩
 | d+1,_,⟨k0,s,a,n,c,ky,e,hs,hk,hn,hi⟩ => ⟨k0,s,a,n,c,ky,e,hs,hk.mono hS,hn,fun i h => by
   obtain ⟨b,c0,c1,c2,c3,ea,hb,h0,h1,h2,h3,hv⟩:=hi i h
   exact ⟨b,c0,c1,c2,c3,ea,hS b hb,h0,h1,h2,h3,ValAt.mono hS hv⟩⟩
theorem ValAt.scal (w:World) (S:Nat->Prop) (d:Nat) (k:Int) {s:ByteArray} (hs:s.size<=32) {ky:Value} (hk:KeysAt w S ky):ValAt w S d (.agg #[.int .i64 k,.string s,.slice none 0 0,ky]):=by
 cases d with
 | zero => exact ⟨k,s,none,0,_,rfl,hs,hk⟩
 | succ d => exact ⟨k,s,none,0,0,_,rfl,hs,hk,by omega,fun i h => by omega⟩
abbrev Quad:=Value × Value × Value × Value
def Quad.v (q:Quad):Value:=.agg #[q.1,q.2.1,q.2.2.1,q.2.2.2]
def Quad.cs (q:Quad):List Value:=[q.1,q.2.1,q.2.2.1,q.2.2.2]
def quads (l:List Quad):List Value:=l.flatMap Quad.cs
theorem quads_snoc (l:List Quad) (q:Quad):quads (l++[q])=quads l++[q.1,q.2.1,q.2.2.1,q.2.2.2]:=by simp [quads,Quad.cs]
theorem quads_get:∀ (l:List Quad) (i:Nat) (h:i<l.length),(quads l)[i * 4]?=some l[i].1/\(quads l)[i * 4+1]?=some l[i].2.1/\(quads l)[i * 4+2]?=some l[i].2.2.1/\(quads l)[i * 4+3]?=some l[i].2.2.2
 | q :: l,0,_ => ⟨rfl,rfl,rfl,rfl⟩
 | q :: l,i+1,h => by
  have e:∀ j,(quads (q :: l))[(i+1) * 4+j]?=(quads l)[i * 4+j]?:=fun j => by
   show (q.cs++quads l)[_]?=_;rw [List.getElem?_append_right (by show 4<=_;omega)]
   congr 1
   show (i+1) * 4+j - 4=_;omega
  have h':i<l.length:=Nat.lt_of_succ_lt_succ h;have r:=quads_get l i h';refine ⟨(e 0).trans r.1,(e 1).trans r.2.1,(e 2).trans r.2.2.1,(e 3).trans r.2.2.2⟩
def OwnQ (w:World) (base:Nat) (v:Value) (l:List Quad):Prop:=w.ownsRow base 43 4 v l.length (quads l)
theorem OwnQ.val {w:World} {base d:Nat} {v:Value} {l:List Quad} {S:Nat->Prop} (h:OwnQ w base v l) (hl:l.length<=3) (hv:∀ q ∈ l,ValAt w S d q.v) (hS:∀ g,v.ownBlock=some g->S g)
  (k:Int) {s:ByteArray} (hs:s.size<=32) {ky:Value} (hk:KeysAt w S ky):ValAt w S (d+1) (.agg #[.int .i64 k,.string s,v,ky]):=by
 have hlt:=World.ownsRow.lt h;rcases h.2 with ⟨rfl,hn⟩ | ⟨g,cap,cur,rfl,_⟩
 ·exact ⟨k,s,none,0,0,ky,rfl,hs,hk,by omega,fun i h => by omega⟩
 ·refine ⟨k,s,_,_,_,ky,rfl,hs,hk,hl,fun i hi => ?_⟩;have r:=quads_get l i hi;have hc:∀ j u,(quads l)[j]?=some u->w.cell? ⟨g,j,none⟩=some u:=fun j u hu => by
   have:=World.ownsRow.cells h (g:=g) rfl j u hu;rw [Addr.add_lit,Nat.zero_add] at this;exact this
  exact ⟨g,_,_,_,_,rfl,hS g rfl,hc _ _ r.1,hc _ _ r.2.1,hc _ _ r.2.2.1,hc _ _ r.2.2.2,hv _ (List.getElem_mem hi)⟩
def NumAt (w:World) (ab:Nat) (A:Option Addr) (n:Nat):Prop:=∀ i,i<n->∃ (b o x:Nat),A=some ⟨b,o,none⟩/\b ≠ ab/\x<4294967296/\w.cell? ⟨b,o+i,none⟩=some (.int .u32 x)
theorem NumAt.kp {w w':World} {ab n:Nat} {A:Option Addr} (h:NumAt w ab A n) (k:Kp (Only ab) w w'):NumAt w' ab A n:=fun i hi => by
 obtain ⟨b,o,x,e,hb,hx,hc⟩:=h i hi;exact ⟨b,o,x,e,hb,hx,Kp.cellO k hc hb⟩
def takes:Nat->Nat
 | 0 => 1
 | d+1 => 1+3 * takes d
def ValR (ab d a:Nat) (w:World) (e:Ending) (w':World):Prop :=
 ∃ (v:Value) (a':Nat),e=.returned v/\ValAt w' (fun b => w.heap.size<=b/\b<w'.heap.size) d v/\Blk w' ab [.int .i64 a'] 3/\a<=a'/\a'<=a+takes d/\Kp (Only ab) w w'
theorem valueR_end {ab d a a':Nat} {w W:World} {A:Act} {v0 v1 v2 v3:Value} (hB:Blk W w.heap.size [v0,v1,v2,v3] 43) (hv:ValAt W (fun b => w.heap.size<=b/\b<W.heap.size) d (.agg #[v0,v1,v2,v3])) (ha:Blk W ab [.int .i64 a'] 3) (h1:a<=a') (h2:a'<=a+takes d) (hk:Kp (Only ab) w W)
  (hd:A.defers=[]) (ht:A.tmps[6]?=some (.pointer (some ⟨w.heap.size,0,none⟩))) :
  bodyPost Tryz.prog Tryz.f18 (ValR ab d a w) Exit.ret A W:=by
 have b0:=hB.cell 0 rfl;have b1:=hB.cell 1 rfl;have b2:=hB.cell 2 rfl;have b3:=hB.cell 3 rfl;exact bodyPost_ret (v:=.agg #[v0,v1,v2,v3]) (by simp [results,Tryz.results18,go_sem,b0,b1,b2,b3,ht]) hd ⟨_,a',rfl,hv,ha,h1,h2,hk⟩
theorem valueR_fin {ab d a a':Nat} {w W:World} {A:Act} {z0 z1 z2 z3 v0 v1 v2 v3:Value} (hr:Blk W w.heap.size [z0,z1,z2,z3] 43) (hv:ValAt W (fun b => w.heap.size+1<=b/\b<W.heap.size) d (.agg #[v0,v1,v2,v3])) (ha:Blk W ab [.int .i64 a'] 3) (hab:ab<w.heap.size) (h1:a<=a') (h2:a'<=a+takes d) (hk:Kp (Only ab) w W)
  (hd:A.defers=[]) (ht:A.tmps[6]?=some (.pointer (some ⟨w.heap.size,0,none⟩))) :
  bodyPost Tryz.prog Tryz.f18 (ValR ab d a w) Exit.ret A ((((W.setCell ⟨w.heap.size,0,none⟩ v0).setCell ⟨w.heap.size,1,none⟩ v1).setCell ⟨w.heap.size,2,none⟩ v2).setCell ⟨w.heap.size,3,none⟩ v3):=by
 have k:=Kp.putOnly (i:=3) (Kp.putOnly (i:=2) (Kp.putOnly (i:=1) (Kp.putOnly (b:=w.heap.size) (i:=0) (Kp.refl _ W) v0) v1) v2) v3;refine valueR_end (Blk.put (Blk.put (Blk.put (Blk.put hr 0 v0) 1 v1) 2 v2) 3 v3) (ValAt.mono ?_ (ValAt.kp k ?_ hv)) (ha.kpOnly k (by omega)) h1 h2 ?_ hd ht
 ·rintro b ⟨h1,h2⟩;exact ⟨by omega,Nat.lt_of_lt_of_le h2 k.size⟩
 ·rintro b ⟨h1,h2⟩ (h:b=_);omega
 ·exact Kp.then hk k (fun i (hi:i=_) => .inr (by omega))
theorem scalar_i (z:Int) (w:World) (h0:0<=z) (h1:z<4294967296):Calls Tryz.prog 43 #[.int .u32 z] w (ScalR w):=by
 obtain ⟨n,rfl⟩:=Int.eq_ofNat_of_zero_le h0;exact scalar_c n w (by omega)
theorem value_zero (A:Option Addr) (n C ab a:Nat) (w:World) (hn:NumAt w ab A n) (hb:Blk w ab [.int .i64 a] 3) (ha:a<=100000) :
  Calls Tryz.prog 18 #[.slice A n C,.pointer (some ⟨ab,0,none⟩),.int .i64 0] w (ValR ab 0 a w):=by
 have c0:=hb.cell 0 rfl;have f0:=hb.free 0;have hlt:=hb.lt;have HB:=qqh hb;have c1:=fun o => Lib.cell?_alloc_some (W:=w) o c0
 have m1:IntKind.i64.wrap ((a:Int) * 2654435)=(a:Int) * 2654435:=IntWalk.i64_in _ (by omega);have m2:IntKind.i64.wrap ((a:Int)+1)=(a:Int)+1:=IntWalk.i64_in _ (by omega);have hsz:(w.setCell ⟨ab,0,none⟩ (.int .i64 ((a:Int)+1))).heap.size=w.heap.size:=by simp
 have HR:Hid (Blk ((w.setCell ⟨ab,0,none⟩ (.int .i64 ((a:Int)+1))).alloc (.cells #[.int .i64 0,.string ⟨#[]⟩,.slice none 0 0,.slice none 0 0] 43)) w.heap.size [.int .i64 0,.string ⟨#[]⟩,.slice none 0 0,.slice none 0 0] 43):=by
  have:=Blk.new (w.setCell ⟨ab,0,none⟩ (.int .i64 ((a:Int)+1))) [.int .i64 0,.string ⟨#[]⟩,.slice none 0 0,.slice none 0 0] 43;rw [hsz] at this;exact this
 have HA:Hid (Blk ((w.setCell ⟨ab,0,none⟩ (.int .i64 ((a:Int)+1))).alloc (.cells #[.int .i64 0,.string ⟨#[]⟩,.slice none 0 0,.slice none 0 0] 43)) ab [.int .i64 ((a+1:Nat):Int)] 3):=(hb.putE 0 _ (by push_cast;rfl)).alloc _;have HK:Hid (Kp (Only ab) w ((w.setCell ⟨ab,0,none⟩ (.int .i64 ((a:Int)+1))).alloc (.cells #[.int .i64 0,.string ⟨#[]⟩,.slice none 0 0,.slice none 0 0] 43))):=(Kp.putOnly (Kp.refl _ _) _).alloc _;clear hb hsz;have hfin:∀ (A:Act) (w2:World) (k:Int) (s:ByteArray),s.size<=32->Kp Nil ((w.setCell ⟨ab,0,none⟩ (.int .i64 ((a:Int)+1))).alloc (.cells #[.int .i64 0,.string ⟨#[]⟩,.slice none 0 0,.slice none 0 0] 43)) w2->A.defers=[]->A.tmps[6]?=some (.pointer (some ⟨w.heap.size,0,none⟩)) ->
   bodyPost Tryz.prog Tryz.f18 (ValR ab 0 a w) Exit.ret A ((((w2.setCell ⟨w.heap.size,0,none⟩ (.int .i64 k)).setCell ⟨w.heap.size,1,none⟩ (.string s)).setCell ⟨w.heap.size,2,none⟩ (.slice none 0 0)).setCell ⟨w.heap.size,3,none⟩ (.slice none 0 0)) :=
  fun A w2 k s hs hk hd ht => valueR_fin (HR.out.kpNil hk) (ValAt.scal _ _ 0 k hs (KeysAt.nil _ _ _ _)) (HA.out.kpNil hk) hlt (by omega) (by show a+1<=a+1;omega) (Kp.trans HK.out hk.toO) hd ht
 have HF:=qqh hfin;clear hfin;by_cases hln:a<n
 ·obtain ⟨b,o,x,rfl,hbn,hx,hc⟩:=hn a hln;have c2:=fun o => Lib.cell?_alloc_some (W:=w) o hc
  have i1:(a:Int)<n:=by omega
  go_enter Tryz.func18,Tryz.ntmps18;go_wp2_with (go_at_call 43;refine (scalar_i _ _ (by omega) (by omega)).mono ?_;rintro e2 w2 ⟨k,s,rfl,_,hs,hk2⟩;have HK2:=qqh hk2;have b0:=(HR.out.kpNil hk2).cell 0 rfl;have b1:=(HR.out.kpNil hk2).cell 1 rfl;have b2:=(HR.out.kpNil hk2).cell 2 rfl;have b3:=(HR.out.kpNil hk2).cell 3 rfl;have g0:=(HR.out.kpNil hk2).free 0;have g1:=(HR.out.kpNil hk2).free 1;have g2:=(HR.out.kpNil hk2).free 2;have g3:=(HR.out.kpNil hk2).free 3;clear hk2)
  exact HF.out _ _ _ _ hs HK2.out rfl rfl
 ·have i1:¬ ((a:Int)<n):=by omega
  go_enter Tryz.func18,Tryz.ntmps18;go_wp2_with (go_at_call 43;refine (scalar_i _ _ (Int.emod_nonneg _ (by decide)) (Int.emod_lt_of_pos _ (by decide))).mono ?_;rintro e2 w2 ⟨k,s,rfl,_,hs,hk2⟩;have HK2:=qqh hk2;have b0:=(HR.out.kpNil hk2).cell 0 rfl;have b1:=(HR.out.kpNil hk2).cell 1 rfl;have b2:=(HR.out.kpNil hk2).cell 2 rfl;have b3:=(HR.out.kpNil hk2).cell 3 rfl;have g0:=(HR.out.kpNil hk2).free 0;have g1:=(HR.out.kpNil hk2).free 1;have g2:=(HR.out.kpNil hk2).free 2;have g3:=(HR.out.kpNil hk2).free 3;clear hk2)
  exact HF.out _ _ _ _ hs HK2.out rfl rfl
def PartS (w:World) (xv:Value) (W:World) (b:Nat):Prop:=w.heap.size+2<=b/\b<W.heap.size/\some b ≠ xv.ownBlock
structure VL (w:World) (ab d:Nat) (K:Int) (acc:List Quad) (xv:Value) (a':Nat) (W:World):Prop where
 kp:Kp (Only ab) w W
 at_:Blk W ab [.int .i64 a'] 3
 res:Blk W w.heap.size [.int .i64 0,.string ⟨#[]⟩,.slice none 0 0,.slice none 0 0] 43
 nd:Blk W (w.heap.size+1) [.int .i64 K,.string ⟨#[]⟩,xv,.slice none 0 0] 43
 own:OwnQ W (w.heap.size+2) xv acc
 val:∀ q ∈ acc,ValAt W (PartS w xv W) d q.v
 lt:ab<w.heap.size
section
variable {w W W2:World} {ab d a' a'':Nat} {K:Int} {acc:List Quad} {xv v':Value}
theorem PartS.mono (h:W.heap.size<=W2.heap.size) (b:Nat) (hb:PartS w xv W b):PartS w xv W2 b:=⟨hb.1,Nat.lt_of_lt_of_le hb.2.1 h,hb.2.2⟩
theorem VL.call (h:VL w ab d K acc xv a' W) (hk:Kp (Only ab) W W2) (hb:Blk W2 ab [.int .i64 a''] 3):VL w ab d K acc xv a'' W2:=by
 have hlt:=h.lt;have hol:=World.ownsRow.lt h.own;refine ⟨Kp.trans h.kp hk,hb,h.res.kpOnly hk (by omega),h.nd.kpOnly hk (by omega),own_kp h.own hk (fun g e (x:g=ab) => ?_),fun q hq => ?_,hlt⟩
 ·have:=(hol g e).1;omega
 ·refine ValAt.mono (PartS.mono hk.size) (ValAt.kp hk (fun b hb (x:b=ab) => ?_) (h.val q hq));have:=hb.1;omega
theorem VL.nil (h:VL w ab d K acc xv a' W) (hk:Kp Nil W W2):VL w ab d K acc xv a' W2:=h.call hk.toO (h.at_.kpNil hk)
theorem VL.part {v:Value} (h:VL w ab d K acc xv a' W) (hv:ValAt W2 (fun b => W.heap.size<=b/\b<W2.heap.size) d v):ValAt W2 (PartS w xv W2) d v:=by
 have h1:=h.nd.lt;have hol:=World.ownsRow.lt h.own;refine ValAt.mono (fun b hb => ⟨by have:=hb.1;omega,hb.2,fun e => ?_⟩) hv;have:=(hol b e.symm).2;have:=hb.1;omega
theorem VL.push {q:Quad} (h:VL w ab d K acc xv a' W) (hq:ValAt W (PartS w xv W) d q.v) (hown:W2.ownsRow (w.heap.size+2) 43 4 v' (acc.length+1) (quads acc++[q.1,q.2.1,q.2.2.1,q.2.2.2])) (hg:W.grownBy W2 xv.ownBlock) (hf:Fresh W xv v') :
  VL w ab d K (acc++[q]) v' a' (W2.setCell ⟨w.heap.size+1,2,none⟩ v'):=by
 have hlt:=h.lt;have hol:=World.ownsRow.lt h.own;have hol2:=World.ownsRow.lt hown;have kg:=Kp.ofGrown hg;have ks:=Kp.putOnly (b:=w.heap.size+1) (i:=2) (Kp.refl _ W2) v';have hne:∀ b,b<w.heap.size+2->¬ (some b=xv.ownBlock):=fun b hb e => by have:=(hol b e.symm).1;omega
 refine ⟨Kp.then (Kp.then h.kp kg (fun i e => .inr (by have:=(hol i e.symm).1;omega))) ks (fun i (e:i=_) => .inr (by omega)),(h.at_.kp kg (hne _ (by omega))).kpOnly ks (by omega),(h.res.kp kg (hne _ (by omega))).kpOnly ks (by omega),(h.nd.kp kg (hne _ (by omega))).put 2 v',?_,fun r hr => ?_,hlt⟩
 ·unfold OwnQ;rw [quads_snoc,qqa];exact own_put hown (by show w.heap.size+1<w.heap.size+2;omega) v'
 ·have hr2:ValAt W (PartS w xv W) d r.v:=by
   rcases List.mem_append.1 hr with x | x
   ·exact h.val r x
   ·rw [List.mem_singleton.1 x];exact hq
  refine ValAt.mono ?_ (ValAt.kp ks ?_ (ValAt.kp kg (fun b hb e => hb.2.2 e) hr2))
  ·intro b hb;refine ⟨hb.1,Nat.lt_of_lt_of_le (Nat.lt_of_lt_of_le hb.2.1 kg.size) ks.size,fun e => ?_⟩;rcases hf with x | x
   ·exact hb.2.2 (e.trans x)
   ·have:=x b e.symm;have:=hb.2.1;omega
  ·intro b hb (e:b=_);have:=hb.1;omega
theorem VL.ndG (h:VL w ab d K acc xv a' W) (hg:W.grownBy W2 xv.ownBlock):Blk W2 (w.heap.size+1) [.int .i64 K,.string ⟨#[]⟩,xv,.slice none 0 0] 43 :=
 h.nd.kp (Kp.ofGrown hg) (fun e => by have:=(World.ownsRow.lt h.own _ e.symm).1;omega)
theorem VL.whole (h:VL w ab d K acc xv a' W) (hl:acc.length<=3):ValAt W (fun b => w.heap.size+1<=b/\b<W.heap.size) (d+1) (.agg #[.int .i64 K,.string ⟨#[]⟩,xv,.slice none 0 0]) :=
 OwnQ.val h.own hl (fun q hq => ValAt.mono (fun b hb => ⟨by have:=hb.1;omega,hb.2.1⟩) (h.val q hq)) (fun g e => by have:=World.ownsRow.lt h.own g e;omega) K (by show 0<=32;omega) (KeysAt.nil _ _ _ _)
end
theorem ValAt.keys {w:World} {S:Nat->Prop} {v0 v1 v2 ky kv:Value}:∀ {d:Nat},ValAt w S d (.agg #[v0,v1,v2,ky])->KeysAt w S kv->ValAt w S d (.agg #[v0,v1,v2,kv])
 | 0,⟨k,s,a,c,_,e,hs,_⟩,hk => by
  simp only [Value.agg.injEq,Array.mk.injEq,List.cons.injEq] at e;obtain ⟨rfl,rfl,rfl,_⟩:=e;exact ⟨k,s,a,c,_,rfl,hs,hk⟩
 | d+1,⟨k,s,a,n,c,_,e,hs,_,hn,hi⟩,hk => by
  simp only [Value.agg.injEq,Array.mk.injEq,List.cons.injEq] at e;obtain ⟨rfl,rfl,rfl,_⟩:=e;exact ⟨k,s,a,n,c,_,rfl,hs,hk,hn,hi⟩
theorem keysOf_i (z:Int) (w:World) (h0:0<=z) (h1:z<4294967296) :
  Calls Tryz.prog 17 #[.int .u32 z] w fun e w' => ∃ v:Value,e=.returned v/\KeysAt w' (fun b => w.heap.size<=b/\b<w'.heap.size) v/\Kp Nil w w':=by
 obtain ⟨n,rfl⟩:=Int.eq_ofNat_of_zero_le h0;exact keysOf_c n w (by omega)
theorem VL.keysIn {w W W6:World} {ab d a':Nat} {K:Int} {acc:List Quad} {xv kv u:Value} {o:Obj} (h:VL w ab d K acc xv a' W) (hv:KeysAt W6 (fun b => (W.alloc o).heap.size<=b/\b<W6.heap.size) kv) :
  KeysAt (W6.setCell ⟨W.heap.size,3,none⟩ u) (PartS w xv (W6.setCell ⟨W.heap.size,3,none⟩ u)) kv:=by
 have ks:=Kp.putOnly (b:=W.heap.size) (i:=3) (Kp.refl _ W6) u;have hnd:=h.nd.lt;have hol:=World.ownsRow.lt h.own;rw [World.size_alloc] at hv;refine KeysAt.mono (KeysAt.kp hv ks (fun b hb (e:b=_) => by have:=hb.1;omega)) (fun b hb => ⟨by have:=hb.1;omega,Nat.lt_of_lt_of_le hb.2 ks.size,fun e => ?_⟩);have:=(hol b e.symm).2;have:=hb.1;omega
theorem ValAt.ky {w:World} {S:Nat->Prop} {v0 v1 v2 ky:Value}:∀ {d:Nat},ValAt w S d (.agg #[v0,v1,v2,ky])->KeysAt w S ky
 | 0,⟨k,s,a,c,_,e,_,hk⟩ => by
  simp only [Value.agg.injEq,Array.mk.injEq,List.cons.injEq] at e;obtain ⟨_,_,_,rfl,_⟩:=e;exact hk
 | d+1,⟨k,s,a,n,c,_,e,_,hk,_⟩ => by
  simp only [Value.agg.injEq,Array.mk.injEq,List.cons.injEq] at e;obtain ⟨_,_,_,rfl,_⟩:=e;exact hk
theorem ValAt.form {w:World} {S:Nat->Prop} {d:Nat} {v:Value} (h:ValAt w S d v):∃ (k:Int) (s:ByteArray) (a:Option Addr) (n c:Nat) (ka:Option Addr) (kn kc:Nat),v=.agg #[.int .i64 k,.string s,.slice a n c,.slice ka kn kc]:=by
 cases d with
 | zero =>
  obtain ⟨k,s,a,c,ky,rfl,_,ka,kn,kc,rfl,_⟩:=h;exact ⟨_,_,_,_,_,_,_,_,rfl⟩
 | succ d =>
  obtain ⟨k,s,a,n,c,ky,rfl,_,⟨ka,kn,kc,rfl,_⟩,_⟩:=h;exact ⟨_,_,_,_,_,_,_,_,rfl⟩
end Go.Proofs.YtpgmddjgcgpoeaaGreat
