/-
  A part of the proof.
-/
import Derived.Test.YtpgmddjgcgpoeaaGreatD14
import Derived.Lib.OthersKept
import Derived.Laws.Cover4
import Derived.Test.YtpgmddjgcgpoeaaGreatD01
import Derived.Test.YtpgmddjgcgpoeaaGreatD10
set_option linter.unusedVariables false
set_option linter.unusedSimpArgs false
set_option maxRecDepth 100000
set_option maxHeartbeats 8000000
namespace Go.Proofs.YtpgmddjgcgpoeaaGreat
open Go.RowKit
theorem wwidth (s:ByteArray) (pos:Nat) (h:pos<s.size):1<=(Utf8.decode s pos).2:=by
 by_cases ha:(s[pos]'h).toNat<128
 ·rw [decode_ascii s pos h ha];exact qqr _
 ·exact (decode_high s pos h (by omega)).2
theorem Kp.iterAt {S:Nat->Prop} {a w:World} (h:Kp S a w) {k:Nat} (hk:a.heap.size<=k) (s:ByteArray) (p:Nat):Kp S a (w.iterAt k s p) :=
 ⟨h.os,h.tape,h.output,by rw [Lib.iterAt_size];exact h.size,fun i hi hs => (Lib.iterAt_other w k i s p (by omega)).trans (h.block i hi hs)⟩
theorem Kp.iterIn {w:World} {k:Nat} (s:ByteArray) (p:Nat):Kp (Only k) w (w.iterAt k s p) :=
 ⟨rfl,rfl,rfl,by rw [Lib.iterAt_size];exact qqr _,fun i _ hs => Lib.iterAt_other w k i s p hs⟩
def ITR (w:World) (k:Nat) (s:ByteArray) (p:Nat):Prop:=w.heap[k]?=some (.stringIter s p)
theorem ITR.new (w:World) (s:ByteArray):ITR (w.alloc (.stringIter s 0)) w.heap.size s 0:=World.iter_heap w s 0
theorem ITR.kp {S:Nat->Prop} {w w':World} {k:Nat} {s:ByteArray} {p:Nat} (h:ITR w k s p) (hk:Kp S w w') (hS:¬ S k):ITR w' k s p :=
 (hk.block k (Array.getElem?_eq_some_iff.1 h).1 hS).trans h
theorem ITR.lt {w:World} {k:Nat} {s:ByteArray} {p:Nat} (h:ITR w k s p):k<w.heap.size:=(Array.getElem?_eq_some_iff.1 h).1
theorem ITR.at {w:World} {k:Nat} {s:ByteArray} {p:Nat} (h:ITR w k s p) (q:Nat):ITR (w.iterAt k s q) k s q:=Lib.iterAt_heap w k s p q h
theorem ITR.pos {w:World} {k:Nat} {s:ByteArray} {p:Nat} (h:ITR w k s p):w.iterPos k=p:=by
 unfold ITR at h;simp [World.iterPos,h]
def BoolR (w:World) (e:Ending) (w':World):Prop:=(∃ b:Bool,e=.returned (.bool b))/\Kp Nil w w'
theorem wplain_c (t:ByteArray) (g:Bool) (w:World) (hs:t.size<=100000) :
  Calls Tryz.prog 38 #[.string t,.bool g] w (BoolR w):=by
 go_enter Tryz.func38,Tryz.ntmps38;go_wp2_with fail
 go_loopw [] (fun wr => ∃ p,Hid (ITR wr w.heap.size t p)/\Hid (Kp Nil w wr)) (fun wr => t.size - wr.iterPos w.heap.size)
 case atStart => exact ⟨0,ITR.new w t,(Kp.refl Nil w).alloc _⟩
 case round =>
  obtain ⟨p,hi,hk⟩:=hrel;by_cases hlt:p<t.size
  ·have nx:=Lib.run_next_any_at (P:=Tryz.prog) wr w.heap.size t p 0 hi.out hlt;obtain ⟨r,hr⟩:∃ r,(Utf8.decode t p).1=r:=⟨_,rfl⟩;rw [hr] at nx;have hwd:=qqh (wwidth t p hlt);clear hr;have hI:Hid (ITR (wr.iterAt w.heap.size t (p+(Utf8.decode t p).2)) w.heap.size t (p+(Utf8.decode t p).2)):=hi.out.at _;have hK:Hid (Kp Nil w (wr.iterAt w.heap.size t (p+(Utf8.decode t p).2))):=hk.out.iterAt (qqr _) _ _;obtain ⟨b1,hb1⟩:∃ b,(((r:Nat):Int) == 39)=b:=⟨_,rfl⟩;obtain ⟨b2,hb2⟩:∃ b,decide (((r:Nat):Int)<32)=b:=⟨_,rfl⟩;obtain ⟨b3,hb3⟩:∃ b,(((r:Nat):Int) != 9)=b:=⟨_,rfl⟩;obtain ⟨b4,hb4⟩:∃ b,(((r:Nat):Int) != 10)=b:=⟨_,rfl⟩;obtain ⟨b5,hb5⟩:∃ b,(((r:Nat):Int) == 127)=b:=⟨_,rfl⟩;cases g
   all_goals
    go_wp2_with fail
    all_goals first
     | (exfalso;omega)
     | (go_ret;exact ⟨⟨_,rfl⟩,hK.out⟩)
     | (
       go_roundw
       case rel => exact ⟨_,hI,hK⟩
       case measure => rw [hI.out.pos,hi.out.pos];have:=hwd.out;omega)
  ·have nx:=Lib.run_next_end_at (P:=Tryz.prog) wr w.heap.size t p 0 hi.out hlt;go_wp2_with fail
   go_ret;exact ⟨⟨_,rfl⟩,hk.out⟩
theorem wtab (L:List ByteArray) (m:Nat) (hL:∀ s ∈ L,s.size<=m) (p:Nat) (hp:p<L.length) :
  ∃ s:ByteArray,s.size<=m/\∀ (W:World),(W.alloc (.cells (L.map Value.string).toArray 9)).cell? ⟨W.heap.size,p,none⟩=some (.string s) :=
 ⟨L[p],hL _ (List.getElem_mem hp),fun W => by rw [wcellN rfl];simp [hp]⟩
theorem whex4_c (v:Nat) (w:World) (hv:v<=2147483647) :
  Calls Tryz.prog 67 #[.int .i64 v,.int .i64 4] w fun e w' => ∃ s:ByteArray,e=.returned (.string s)/\s.size=4/\Kp Nil w w':=whex_c v 4 w hv (by omega) (by omega)
theorem whex8_c (v:Nat) (w:World) (hv:v<=2147483647) :
  Calls Tryz.prog 67 #[.int .i64 v,.int .i64 8] w fun e w' => ∃ s:ByteArray,e=.returned (.string s)/\s.size=8/\Kp Nil w w':=whex_c v 8 w hv (by omega) (by omega)
theorem WR.mono {D:Doc} {A:Option Addr} {C bp:Nat} {w:World} {P Q:Nat->Nat->Prop} {e:Ending} {w':World} (h:WR D A C bp w P e w') (hPQ:∀ l a,P l a->Q l a):WR D A C bp w Q e w':=by
 obtain ⟨s,a,he,hP,h1,h2⟩:=h;exact ⟨s,a,he,hPQ _ _ hP,h1,h2⟩
theorem wesc_c (D:Doc) (A:Option Addr) (C bp:Nat) (w:World) (at_ r:Nat) (g:Bool) (hp:ST D A C bp w at_) (hat:at_<=10000000) (hr:r<=2147483647) :
  Calls Tryz.prog 39 #[.pointer (some ⟨bp,0,none⟩),.int .i32 r,.bool g] w (WR D A C bp w (fun l a => l<=10/\at_<=a/\a<=at_+2)):=by
 have HP:=qqh hp;have hlt:=hp.blk.lt;obtain ⟨t9,ht9⟩:∃ b,(((r:Nat):Int) == 9)=b:=⟨_,rfl⟩;clear hp;go_enter Tryz.func39,Tryz.ntmps39;go_wp2_with fail
 go_loopw [] (fun wr => ∃ p,Hid (ITR wr w.heap.size ⟨#[8,9,12,13,34,92]⟩ p)/\Hid (Kp Nil w wr)) (fun wr => 6 - wr.iterPos w.heap.size)
 case atStart => exact ⟨0,ITR.new w _,(Kp.refl Nil w).alloc _⟩
 case round =>
  obtain ⟨p,hi,hk⟩:=hrel;by_cases hp6:p<6
  ·have nx:=Lib.run_next_any_at (P:=Tryz.prog) wr w.heap.size _ p 0 hi.out hp6;have hwd:=qqh (wwidth ⟨#[8,9,12,13,34,92]⟩ p hp6);obtain ⟨q,hq⟩:∃ q,(Utf8.decode ⟨#[8,9,12,13,34,92]⟩ p)=q:=⟨_,rfl⟩;rw [hq] at nx hwd;clear hq;obtain ⟨x,y⟩:=q;have hI:Hid (ITR (wr.iterAt w.heap.size ⟨#[8,9,12,13,34,92]⟩ (p+y)) w.heap.size ⟨#[8,9,12,13,34,92]⟩ (p+y)):=hi.out.at _;have hK:Hid (Kp Nil w (wr.iterAt w.heap.size ⟨#[8,9,12,13,34,92]⟩ (p+y))):=hk.out.iterAt (qqr _) _ _;generalize wr.iterAt w.heap.size ⟨#[8,9,12,13,34,92]⟩ (p+y)=w1 at *;obtain ⟨s,hs,z⟩:=wtab [⟨#[92,98]⟩,⟨#[92,116]⟩,⟨#[92,102]⟩,⟨#[92,114]⟩,⟨#[92,34]⟩,⟨#[92,92]⟩] 2 (by decide) p hp6;simp only [List.map] at z;have HP1:Hid (ST D A C bp w1 at_):=HP.out.nil hK.out;have hpi:(p:Int)<6:=(by omega);obtain ⟨b,hb⟩:∃ b,(((r:Nat):Int) == ((x:Nat):Int))=b:=⟨_,rfl⟩;go_wp2_with (go_at_call 12;refine (wpick2_c D A C bp _ at_ HP1.out (by omega)).mono ?_;rintro e1 w2 ⟨rfl,hp2,hk2⟩;have HP2:=qqh hp2;have HK2:Hid (Kp (Only bp) w _):=Kp.trans (Kp.mono hK.out (fun _ x => x.elim)) hk2;obtain ⟨c,hc⟩:∃ c,(((pickV D at_ % 2:Nat):Int) == 0)=c:=⟨_,rfl⟩;clear hp2 hk2)
   all_goals first
    | (go_ret;exact ⟨_,_,rfl,⟨by show 1<=10;omega,by omega,by omega⟩,HP2.out,HK2.out⟩)
    | (go_ret;exact ⟨_,_,rfl,⟨by omega,by omega,by omega⟩,HP2.out.nil ((Kp.refl _ _).alloc _),HK2.out.alloc _⟩)
    | (go_ret;exact ⟨_,_,rfl,⟨by omega,by omega,by omega⟩,HP1.out.nil ((Kp.refl _ _).alloc _),(Kp.mono hK.out (fun _ x => x.elim)).alloc _⟩)
    | (
      go_roundw
      case rel => exact ⟨_,hI,hK⟩
      case measure => rw [hI.out.pos,hi.out.pos];have:=hwd.out;omega)
  ·have nx:=Lib.run_next_end_at (P:=Tryz.prog) wr w.heap.size _ p 0 hi.out hp6;have HP1:Hid (ST D A C bp wr at_):=HP.out.nil hk.out;have HK1:Hid (Kp (Only bp) w wr):=Kp.mono hk.out (fun _ x => x.elim);obtain ⟨b1,hb1⟩:∃ b,(((r:Nat):Int) == 10)=b:=⟨_,rfl⟩;obtain ⟨b2,hb2⟩:∃ b,(((r:Nat):Int) == 127)=b:=⟨_,rfl⟩;have hat1:at_<=100000000:=(by omega);have hat2:at_+1<=100000000:=(by omega);have hw:IntKind.i64.wrap ((r:Nat):Int)=(r:Int):=IntWalk.i64_in _ (by omega);go_wp2_with (first
    | (go_at_call 12;(with_reducible refine (wpick9_c D A C bp _ at_ HP1.out hat1).mono ?_);rintro e1 w2 ⟨rfl,hp2,hk2⟩;have HP2:=qqh hp2;have HK2:Hid (Kp (Only bp) w _):=Kp.trans HK1.out hk2;obtain ⟨c,hc⟩:∃ c,(((pickV D at_ % 9:Nat):Int) == 0)=c:=⟨_,rfl⟩;clear hp2 hk2)
    | (go_at_call 12;(with_reducible refine (wpick9_c D A C bp _ (at_+1) HP2.out hat2).mono ?_);rintro e1 w3 ⟨rfl,hp2,hk2⟩;have HP3:=qqh hp2;have HK3:Hid (Kp (Only bp) w _):=Kp.trans HK2.out hk2;obtain ⟨d,hd⟩:∃ c,(((pickV D (at_+1) % 9:Nat):Int) == 0)=c:=⟨_,rfl⟩;clear hp2 hk2)
    | (go_at_call 67;(with_reducible refine (whex4_c r _ hr).mono ?_);rintro e1 w4 ⟨s,rfl,hs,hk4⟩;have n1:¬ (9223372036854775807<2+s.size):=(by omega);have K4:=qqh hk4;clear hk4)
    | (go_at_call 67;(with_reducible refine (whex8_c r _ hr).mono ?_);rintro e1 w4 ⟨s,rfl,hs,hk4⟩;have n1:¬ (9223372036854775807<2+s.size):=(by omega);have K4:=qqh hk4;clear hk4))
   all_goals go_ret
   all_goals first
    | exact ⟨_,_,rfl,⟨by show 1<=10;omega,by omega,by omega⟩,HP1.out,HK1.out⟩
    | exact ⟨_,_,rfl,⟨by show 2<=10;omega,by omega,by omega⟩,HP1.out,HK1.out⟩
    | exact ⟨_,_,rfl,⟨Nat.le_trans (encode_size_le _) (by omega),by omega,by omega⟩,HP3.out,HK3.out⟩
    | exact ⟨_,_,rfl,⟨by rw [ByteArray.size_append];show 2+_<=10;omega,by omega,by omega⟩,HP3.out.nil K4.out,Kp.trans HK3.out (Kp.mono K4.out (fun _ x => x.elim))⟩
    | exact ⟨_,_,rfl,⟨by rw [ByteArray.size_append];show 2+_<=10;omega,by omega,by omega⟩,HP2.out.nil K4.out,Kp.trans HK2.out (Kp.mono K4.out (fun _ x => x.elim))⟩
    | exact ⟨_,_,rfl,⟨by rw [ByteArray.size_append];show 2+_<=10;omega,by omega,by omega⟩,HP1.out.nil K4.out,Kp.trans HK1.out (Kp.mono K4.out (fun _ x => x.elim))⟩
theorem wplain0_c (t:ByteArray) (w:World) (hs:t.size<=100000):Calls Tryz.prog 38 #[.string t,.bool false] w (BoolR w):=wplain_c t false w hs
theorem wplain1_c (t:ByteArray) (w:World) (hs:t.size<=100000):Calls Tryz.prog 38 #[.string t,.bool true] w (BoolR w):=wplain_c t true w hs
theorem Kp.toO {w w':World} {b:Nat} (h:Kp Nil w w'):Kp (Only b) w w':=Kp.mono h (fun _ x => x.elim)
theorem ST.iterAt {D:Doc} {A:Option Addr} {C bp:Nat} {w0 w:World} {a0 a:Nat} (h0:ST D A C bp w0 a0) (h:ST D A C bp w a) {k:Nat} (hk:w0.heap.size<=k) (s:ByteArray) (q:Nat):ST D A C bp (w.iterAt k s q) a:=by
 refine ⟨h.blk.kp (Kp.iterIn s q) (by have:=h0.blk.lt;unfold Only;omega),?_,h.ne⟩;obtain ⟨x1,x2,x3 | ⟨bd,o,e,hb,hc⟩⟩:=h.doc
 ·exact ⟨x1,x2,.inl x3⟩
 ·obtain ⟨_,_,y3 | ⟨bd',o',e',hb',hc'⟩⟩:=h0.doc
  ·exact ⟨x1,x2,.inl y3⟩
  ·refine h.doc.of_block (by rw [Lib.iterAt_size];exact qqr _) fun b hb2 _ => ?_
   rw [e'] at hb2;cases hb2;exact Lib.iterAt_other w k _ s q (by show bd' ≠ k;omega)
theorem wtext_c (D:Doc) (A:Option Addr) (C bp:Nat) (w:World) (at_:Nat) (t:ByteArray) (hp:ST D A C bp w at_) (hat:at_<=5000000) (ht:t.size<=1000) :
  Calls Tryz.prog 40 #[.pointer (some ⟨bp,0,none⟩),.string t] w (WR D A C bp w (fun l a => l<=17 * t.size+7/\at_<=a/\a<=at_+5 * t.size+1)):=by
 have HP:=qqh hp;have hlt:=hp.blk.lt;have ht1:t.size<=100000:=by omega
 clear hp;go_enter Tryz.func40,Tryz.ntmps40;go_upto_region 2 with (go_at_call 12;refine (wpick6_c D A C bp _ at_ HP.out (by omega)).mono ?_;rintro e1 w2 ⟨rfl,hp2,hk2⟩;have HP2:=qqh hp2;have HK2:Hid (Kp (Only bp) w _):=hk2;obtain ⟨q,hq⟩:∃ q,((pickV D at_ % 6:Nat):Int)=q:=⟨_,rfl⟩;have hq0:0<=q:=(by omega);rw [hq];clear hp2 hk2 hq);have n1:¬ (9223372036854775807<1+t.size):=by omega
 have n2:¬ (9223372036854775807<1+t.size+1):=by omega
 have n3:¬ (9223372036854775807<4+t.size):=by omega
 have n4:¬ (9223372036854775807<4+t.size+3):=by omega
 by_cases h2:q=2
 ·subst h2;go_wp2_with fail
  go_loopw [6] (fun x wr => ∃ (o:ByteArray) (p j a:Nat),x=.string o/\o.size<=4+17 * j/\j<=p/\j<=t.size/\at_+1<=a/\a<=at_+1+5 * j/\Hid (ITR wr w2.heap.size t p)/\Hid (ST D A C bp wr a)/\Hid (Kp (Only bp) w wr)) (fun _ wr => t.size - wr.iterPos w2.heap.size)
  case atStart => exact ⟨_,0,0,_,rfl,by show 4<=4+17 * 0;omega,by omega,by omega,by omega,by omega,ITR.new _ t,HP2.out.nil ((Kp.refl _ _).alloc _),HK2.out.alloc _⟩
  case round =>
   obtain ⟨o,p,j,a,rfl,ho,hjp,hj,ha1,ha2,hi,hp3,hk3⟩:=hrel;by_cases hpt:p<t.size
   ·have nx:=Lib.run_next_any_at (P:=Tryz.prog) wr w2.heap.size _ p 0 hi.out hpt;have hwd:=qqh (wwidth t p hpt);have hx:=decode_le t p;obtain ⟨y,hy⟩:∃ y,(Utf8.decode t p)=y:=⟨_,rfl⟩;rw [hy] at nx hwd hx;clear hy;obtain ⟨x,y⟩:=y;have hx:x<=2147483647:=hx;have hkk:w.heap.size<=w2.heap.size:=HK2.out.size;have hI:Hid (ITR (wr.iterAt w2.heap.size t (p+y)) w2.heap.size t (p+y)):=hi.out.at _;have hK:Hid (Kp (Only bp) w (wr.iterAt w2.heap.size t (p+y))):=hk3.out.iterAt hkk _ _;have hP:Hid (ST D A C bp (wr.iterAt w2.heap.size t (p+y)) a):=HP.out.iterAt hp3.out hkk _ _;generalize wr.iterAt w2.heap.size t (p+y)=w3 at *;obtain ⟨d1,hd1⟩:∃ b,(((x:Nat):Int) == 32)=b:=⟨_,rfl⟩;obtain ⟨d2,hd2⟩:∃ b,(((x:Nat):Int) == 9)=b:=⟨_,rfl⟩;obtain ⟨d3,hd3⟩:∃ b,(((x:Nat):Int) == 10)=b:=⟨_,rfl⟩;have hw:IntKind.i64.wrap ((x:Nat):Int)=(x:Int):=IntWalk.i64_in _ (by omega);have hat0:a<=10000000:=(by omega);have hat1:a<=100000000:=(by omega);have hat2:a+1<=100000000:=(by omega);have hat3:a+1+1<=100000000:=(by omega);have hat4:a+1<=10000000:=(by omega);have hat5:a+1+1+1<=10000000:=(by omega);go_wp2_with (first
     | (go_at_call 12;(with_reducible refine (wpick7_c D A C bp _ a hP.out hat1).mono ?_);rintro e4 w4 ⟨rfl,hp4,hk4⟩;have hI4:Hid (ITR w4 w2.heap.size t (p+y)):=hI.out.kp hk4 (by unfold Only;omega);have HK4:Hid (Kp (Only bp) w w4):=Kp.trans hK.out hk4;have HP4:=qqh hp4;clear hp4 hk4;obtain ⟨c,hc⟩:∃ c,(((pickV D a % 7:Nat):Int) == 0)=c:=⟨_,rfl⟩)
     | (go_at_call 14;(with_reducible refine (wblanks_c D A C bp _ (a+1) HP4.out hat2).mono ?_);rintro e5 w5 ⟨s1,a5,rfl,⟨hs1,rfl⟩,hp5,hk5⟩;have hs1:s1.size<=2:=hs1;have m1:¬ (9223372036854775807<1+s1.size):=(by omega);have m2:¬ (9223372036854775807<1+s1.size+1):=(by omega);have hI5:Hid (ITR w5 w2.heap.size t (p+y)):=hI4.out.kp hk5 (by unfold Only;omega);have HK5:Hid (Kp (Only bp) w w5):=Kp.trans HK4.out hk5;have HP5:=qqh hp5;clear hp5 hk5)
     | (go_at_call 14;(with_reducible refine (wblanks_c D A C bp _ (a+1+1) HP5.out hat3).mono ?_);rintro e6 w6 ⟨s2,a6,rfl,⟨hs2,rfl⟩,hp6,hk6⟩;have hs2:s2.size<=2:=hs2;have m3:¬ (9223372036854775807<1+s1.size+1+s2.size):=(by omega);have m4:¬ (9223372036854775807<o.size+(1+s1.size+1+s2.size)):=(by omega);have hI6:Hid (ITR w6 w2.heap.size t (p+y)):=hI5.out.kp hk6 (by unfold Only;omega);have HK6:Hid (Kp (Only bp) w w6):=Kp.trans HK5.out hk6;have HP6:=qqh hp6;clear hp6 hk6)
     | (go_at_call 67;(with_reducible refine (whex4_c x _ hx).mono ?_);rintro e7 w7 ⟨s,rfl,hs,hk7⟩;have m5:¬ (9223372036854775807<2+s.size):=(by omega);have m6:¬ (9223372036854775807<o.size+(1+s1.size+1+s2.size)+(2+s.size)):=(by omega);have hI7:Hid (ITR w7 w2.heap.size t (p+y)):=hI6.out.kp hk7 (fun h => h);have HK7:Hid (Kp (Only bp) w w7):=Kp.trans HK6.out hk7.toO;have HP7:Hid (ST D A C bp w7 (a+1+1+1)):=HP6.out.nil hk7;clear hk7)
     | (go_at_call 39;(with_reducible refine (wesc_c D A C bp _ (a+1) x true HP4.out hat4 hx).mono ?_);rintro e7 w7 ⟨s,a',rfl,⟨hs,hs1,hs2⟩,hp7,hk7⟩;have hs:s.size<=10:=hs;have m6:¬ (9223372036854775807<o.size+s.size):=(by omega);have hI7:Hid (ITR w7 w2.heap.size t (p+y)):=hI4.out.kp hk7 (by unfold Only;omega);have HK7:Hid (Kp (Only bp) w w7):=Kp.trans HK4.out hk7;have HP7:=qqh hp7;clear hp7 hk7)
     | (go_at_call 39;(with_reducible refine (wesc_c D A C bp _ (a+1+1+1) x true HP6.out hat5 hx).mono ?_);rintro e7 w7 ⟨s,a',rfl,⟨hs,hs1',hs2'⟩,hp7,hk7⟩;have hs:s.size<=10:=hs;have m6:¬ (9223372036854775807<o.size+(1+s1.size+1+s2.size)+s.size):=(by omega);have hI7:Hid (ITR w7 w2.heap.size t (p+y)):=hI6.out.kp hk7 (by unfold Only;omega);have HK7:Hid (Kp (Only bp) w w7):=Kp.trans HK6.out hk7;have HP7:=qqh hp7;clear hp7 hk7))
    all_goals
     go_roundw
     case rel =>
      first
       | exact ⟨_,p+y,j+1,a+1+1+1,rfl,by simp only [ByteArray.size_append];show o.size+(1+s1.size+1+s2.size)+(2+s.size)<=_;omega,by have:=hwd.out;omega,by omega,by omega,by omega,hI7,HP7,HK7⟩
       | exact ⟨_,p+y,j+1,a',rfl,by simp only [ByteArray.size_append];show o.size+(1+s1.size+1+s2.size)+s.size<=_;omega,by have:=hwd.out;omega,by omega,by omega,by omega,hI7,HP7,HK7⟩
       | exact ⟨_,p+y,j+1,a',rfl,by simp only [ByteArray.size_append];omega,by have:=hwd.out;omega,by omega,by omega,by omega,hI7,HP7,HK7⟩
     case measure => rw [hI7.out.pos,hi.out.pos];have:=hwd.out;omega
   ·have nx:=Lib.run_next_end_at (P:=Tryz.prog) wr w2.heap.size _ p 0 hi.out hpt;have n5:¬ (9223372036854775807<o.size+3):=(by omega);go_wp2_with fail
    go_ret;exact ⟨_,_,rfl,⟨by rw [ByteArray.size_append];show o.size+3<=_;omega,by omega,by omega⟩,hp3.out,hk3.out⟩
 ·rcases (show q=0\/q=1\/3<=q by omega) with rfl | rfl | hq
  case' inl =>
   go_wp2_with (go_at_call 38;(with_reducible refine (wplain0_c t _ ht1).mono ?_);rintro e2 w2 ⟨⟨b,rfl⟩,hk2⟩;have HK2:Hid (Kp (Only bp) w w2):=Kp.trans HK2.out hk2.toO;have HP2:Hid (ST D A C bp w2 (at_+1)):=HP2.out.nil hk2;clear hk2)
   all_goals try (go_ret;exact ⟨_,_,rfl,⟨by simp only [ByteArray.size_append];show 1+t.size+1<=_;omega,by omega,by omega⟩,HP2.out,HK2.out⟩)
   obtain rfl:b=false:=by cases b <;> first | rfl | contradiction
  case' inr.inl =>
   go_wp2_with (go_at_call 38;(with_reducible refine (wplain1_c t _ ht1).mono ?_);rintro e2 w2 ⟨⟨b,rfl⟩,hk2⟩;have HK2:Hid (Kp (Only bp) w w2):=Kp.trans HK2.out hk2.toO;have HP2:Hid (ST D A C bp w2 (at_+1)):=HP2.out.nil hk2;clear hk2)
   all_goals try (go_ret;exact ⟨_,_,rfl,⟨by simp only [ByteArray.size_append];show 4+t.size+3<=_;omega,by omega,by omega⟩,HP2.out,HK2.out⟩)
   obtain rfl:b=false:=by cases b <;> first | rfl | contradiction
  case' inr.inr =>
   have g0:(q == 0)=false:=qqn (by omega);have g1:(q == 1)=false:=qqn (by omega);have g2:(q == 2)=false:=qqn (by omega);go_wp2_with fail
  all_goals
   go_loopw [9] (fun x wr => ∃ (o:ByteArray) (p j a:Nat),x=.string o/\o.size<=1+10 * j/\j<=p/\j<=t.size/\at_+1<=a/\a<=at_+1+2 * j/\Hid (ITR wr w2.heap.size t p)/\Hid (ST D A C bp wr a)/\Hid (Kp (Only bp) w wr)) (fun _ wr => t.size - wr.iterPos w2.heap.size)
   case atStart => exact ⟨_,0,0,_,rfl,by show 1<=1+10 * 0;omega,by omega,by omega,by omega,by omega,ITR.new _ t,HP2.out.nil ((Kp.refl _ _).alloc _),HK2.out.alloc _⟩
   case round =>
    obtain ⟨o,p,j,a,rfl,ho,hjp,hj,ha1,ha2,hi,hp3,hk3⟩:=hrel;by_cases hpt:p<t.size
    ·have nx:=Lib.run_next_any_at (P:=Tryz.prog) wr w2.heap.size _ p 0 hi.out hpt;have hwd:=qqh (wwidth t p hpt);have hx:=decode_le t p;obtain ⟨y,hy⟩:∃ y,(Utf8.decode t p)=y:=⟨_,rfl⟩;rw [hy] at nx hwd hx;clear hy;obtain ⟨x,y⟩:=y;have hx:x<=2147483647:=hx;have hkk:w.heap.size<=w2.heap.size:=HK2.out.size;have hI:Hid (ITR (wr.iterAt w2.heap.size t (p+y)) w2.heap.size t (p+y)):=hi.out.at _;have hK:Hid (Kp (Only bp) w (wr.iterAt w2.heap.size t (p+y))):=hk3.out.iterAt hkk _ _;have hP:Hid (ST D A C bp (wr.iterAt w2.heap.size t (p+y)) a):=HP.out.iterAt hp3.out hkk _ _;generalize wr.iterAt w2.heap.size t (p+y)=w3 at *;have hat3:a<=10000000:=(by omega);go_wp2_with (go_at_call 39;refine (wesc_c D A C bp _ a x false hP.out hat3 hx).mono ?_;rintro e4 w4 ⟨s,a',rfl,⟨hs,hs1,hs2⟩,hp4,hk4⟩;have hs:s.size<=10:=hs;have n5:¬ (9223372036854775807<o.size+s.size):=(by omega);have hI4:Hid (ITR w4 w2.heap.size t (p+y)):=hI.out.kp hk4 (by unfold Only;omega);have HK4:Hid (Kp (Only bp) w w4):=Kp.trans hK.out hk4;have HP4:=qqh hp4;clear hp4 hk4)
     go_roundw
     case rel => exact ⟨_,p+y,j+1,a',rfl,by rw [ByteArray.size_append];omega,by have:=hwd.out;omega,by omega,by omega,by omega,hI4,HP4,HK4⟩
     case measure => rw [hI4.out.pos,hi.out.pos];have:=hwd.out;omega
    ·have nx:=Lib.run_next_end_at (P:=Tryz.prog) wr w2.heap.size _ p 0 hi.out hpt;have n5:¬ (9223372036854775807<o.size+1):=(by omega);go_wp2_with fail
     go_ret;exact ⟨_,_,rfl,⟨by rw [ByteArray.size_append];show o.size+1<=_;omega,by omega,by omega⟩,hp3.out,hk3.out⟩
theorem wgap_c (D:Doc) (A:Option Addr) (C bp:Nat) (w:World) (at_:Nat) (hp:ST D A C bp w at_) (hat:at_<=5000000) :
  Calls Tryz.prog 41 #[.pointer (some ⟨bp,0,none⟩)] w (WR D A C bp w (fun l a => l<=16/\at_<=a/\a<=at_+5)):=by
 have HP:=qqh hp;have hat1:at_<=100000000:=by omega
 have hat2:at_+1<=10000000:=by omega
 have hat3:at_+1<=100000000:=by omega
 have hat4:at_+1+3<=100000000:=by omega
 clear hp;go_enter Tryz.func41,Tryz.ntmps41;go_wp2_with (first
  | (go_at_call 12;(with_reducible refine (wpick4_c D A C bp _ at_ HP.out hat1).mono ?_);rintro e1 w1 ⟨rfl,hp1,hk1⟩;have HP1:=qqh hp1;have HK1:=qqh hk1;clear hp1 hk1;obtain ⟨c,hc⟩:∃ c,(((pickV D at_ % 4:Nat):Int) == 0)=c:=⟨_,rfl⟩)
  | (go_at_call 13;(with_reducible refine (wend_c D A C bp _ (at_+1) HP1.out hat2).mono ?_);rintro e2 w2 ⟨s1,a2,rfl,⟨hs1,rfl⟩,hp2,hk2⟩;have hs1:s1.size<=14:=hs1;have HP2:=qqh hp2;have HK2:=qqh (Kp.trans HK1.out hk2);clear hp2 hk2)
  | (go_at_call 14;(with_reducible refine (wblanks_c D A C bp _ (at_+1) HP1.out hat3).mono ?_);rintro e3 w3 ⟨s2,a3,rfl,⟨hs2,rfl⟩,hp3,hk3⟩;have hs2:s2.size<=2:=hs2;have HP3:=qqh hp3;have HK3:=qqh (Kp.trans HK1.out hk3);clear hp3 hk3)
  | (go_at_call 14;(with_reducible refine (wblanks_c D A C bp _ (at_+1+3) HP2.out hat4).mono ?_);rintro e3 w3 ⟨s2,a3,rfl,⟨hs2,rfl⟩,hp3,hk3⟩;have hs2:s2.size<=2:=hs2;have n1:¬ (9223372036854775807<s1.size+s2.size):=(by omega);have HP3:=qqh hp3;have HK3:=qqh (Kp.trans HK2.out hk3);clear hp3 hk3))
 all_goals
  go_ret
  first
   | exact ⟨_,_,rfl,⟨by simp only [ByteArray.size_append];omega,by omega,by omega⟩,HP3.out,HK3.out⟩
   | exact ⟨_,_,rfl,⟨by omega,by omega,by omega⟩,HP3.out,HK3.out⟩
def KeysAt (w:World) (S:Nat->Prop) (v:Value):Prop :=
 ∃ (a:Option Addr) (n c:Nat),v=.slice a n c/\n<=3/\∀ i,i<n->∃ (b:Nat) (s:ByteArray),a=some ⟨b,0,none⟩/\S b/\s.size<=24/\w.cell? ⟨b,i,none⟩=some (.string s)
theorem KeysAt.kp {w w':World} {S:Nat->Prop} {v:Value} {T:Nat->Prop} (h:KeysAt w S v) (k:Kp T w w') (hS:∀ b,S b->¬ T b):KeysAt w' S v:=by
 obtain ⟨a,n,c,rfl,hn,hc⟩:=h;refine ⟨a,n,c,rfl,hn,fun i hi => ?_⟩;obtain ⟨b,s,e,hb,hs,hcell⟩:=hc i hi;exact ⟨b,s,e,hb,hs,(World.cell?_of_block (k.block b (World.block_lt_of_cell? (w:=w) (a:=⟨b,i,none⟩) hcell) (hS b hb))).trans hcell⟩
theorem KeysAt.mono {w:World} {S T:Nat->Prop} {v:Value} (h:KeysAt w S v) (hS:∀ b,S b->T b):KeysAt w T v:=by
 obtain ⟨a,n,c,rfl,hn,hc⟩:=h;refine ⟨a,n,c,rfl,hn,fun i hi => ?_⟩;obtain ⟨b,s,e,hb,h2⟩:=hc i hi;exact ⟨b,s,e,hS b hb,h2⟩
theorem KeysAt.nil (w:World) (S:Nat->Prop) (a:Option Addr) (c:Nat):KeysAt w S (.slice a 0 c):=⟨a,0,c,rfl,by omega,fun i hi => by omega⟩
theorem wkey_c (D:Doc) (A:Option Addr) (C bp:Nat) (S:Nat->Prop) (w:World) (at_:Nat) (v:Value) (hp:ST D A C bp w at_) (hat:at_<=4000000) (hv:KeysAt w S v) (hm:∀ b,S b->b ≠ bp) :
  Calls Tryz.prog 15 #[.pointer (some ⟨bp,0,none⟩),v] w (WR D A C bp w (fun l a => l<=760/\at_<=a/\a<=at_+200)):=by
 have HP:=qqh hp;have hlt:=hp.blk.lt;obtain ⟨ka,n,c,rfl,hn,hc⟩:=hv;have HC:=qqh hc;clear hp hc;go_enter Tryz.func15,Tryz.ntmps15;go_wp2_with fail
 go_loopw [5,14] (fun x y wr => ∃ (o:ByteArray) (i a:Nat),x=.string o/\y=.int .i64 i/\i<=n/\o.size<=250 * i/\at_<=a/\a<=at_+60 * i/\Hid (ST D A C bp wr a)/\Hid (Kp (Only bp) w wr)) (fun _ y _ => n - (intOf y).toNat)
 case atStart => exact ⟨_,0,_,rfl,rfl,by omega,by show 0<=_;omega,by omega,by omega,HP,Kp.refl _ _⟩
 case round =>
  obtain ⟨o,i,a,rfl,rfl,hi,ho,ha1,ha2,hp3,hk3⟩:=hrel;by_cases hin:i<n
  ·obtain ⟨b,t,rfl,hb,ht,hct⟩:=HC.out i hin;have ct:=Kp.cellO hk3.out hct (hm b hb);clear hct;have hii:(i:Int)<n:=(by omega);have ht1:t.size<=100000:=(by omega);have hat1:a<=100000000:=(by omega);have hat2:a+1<=100000000:=(by omega);go_upto_if 20 with fail;go_cut [5] from 19 to 28 (fun x wx => ∃ (o2:ByteArray) (a2:Nat),x=.string o2/\o2.size<=250 * i+5/\a<=a2/\a2<=a+2/\Hid (ST D A C bp wx a2)/\Hid (Kp (Only bp) w wx))
   case first =>
    go_wp2_with (first
     | (go_at_call 14;(with_reducible refine (wblanks_c D A C bp _ a hp3.out hat1).mono ?_);rintro e4 w4 ⟨s1,a4,rfl,⟨hs1,rfl⟩,hp4,hk4⟩;have hs1:s1.size<=2:=hs1;have n1:¬ (9223372036854775807<s1.size+1):=(by omega);have HP4:=qqh hp4;have HK4:=qqh (Kp.trans hk3.out hk4);clear hp4 hk4)
     | (go_at_call 14;(with_reducible refine (wblanks_c D A C bp _ (a+1) HP4.out hat2).mono ?_);rintro e5 w5 ⟨s2,a5,rfl,⟨hs2,rfl⟩,hp5,hk5⟩;have hs2:s2.size<=2:=hs2;have n2:¬ (9223372036854775807<s1.size+1+s2.size):=(by omega);have n3:¬ (9223372036854775807<o.size+(s1.size+1+s2.size)):=(by omega);have HP5:=qqh hp5;have HK5:=qqh (Kp.trans HK4.out hk5);clear hp5 hk5))
    all_goals
     go_meet
     first
      | exact ⟨_,_,rfl,by simp only [ByteArray.size_append];show o.size+(s1.size+1+s2.size)<=_;omega,by omega,by omega,HP5,HK5⟩
      | exact ⟨_,_,rfl,by omega,by omega,by omega,hp3,hk3⟩
   case rest =>
    obtain ⟨o2,a2,rfl,ho2,ha3,ha4,hp5,hk5⟩:=hcut;go_wp2_with fail
    go_loopw [8,33] (fun x y wx => ∃ (s:Bool) (j:Nat),x=.bool s/\y=.int .i64 j/\j<=t.size/\wx=wc) (fun _ y _ => t.size - (intOf y).toNat)
    case atStart => exact ⟨_,0,rfl,rfl,by omega,rfl⟩
    case round =>
     obtain ⟨s,j,rfl,rfl,hj,rfl⟩:=hrel;by_cases hjt:j<t.size
     ·have hjt1:(j:Int)<t.size:=(by omega);cases s
      ·go_wp2_with fail
       go_roundw
       case rel => exact ⟨_,j+1,rfl,by go_num,by omega,by first | rfl | trivial⟩
       case measure => simp [intOf];omega
      ·go_wp2_with (go_at_call 37;refine (bare_c _ _ (UInt8.toNat_lt _)).mono ?_;rintro e9 w9 ⟨rfl,rfl⟩)
       go_roundw
       case rel => exact ⟨_,j+1,rfl,by go_num,by omega,by first | rfl | trivial⟩
       case measure => simp [intOf];omega
     ·have hjt1:¬ ((j:Int)<t.size):=(by omega);have hat3:a2<=100000000:=(by omega);have hat4:a2+1<=100000000:=(by omega);have n4:¬ (9223372036854775807<o2.size+t.size):=(by omega);have n5:¬ (9223372036854775807<1+t.size):=(by omega);have n6:¬ (9223372036854775807<1+t.size+1):=(by omega);have n7:¬ (9223372036854775807<o2.size+(1+t.size+1)):=(by omega);have n8:¬ (9223372036854775807<o2.size+1):=(by omega);cases s
      case' false =>
       obtain ⟨a7,e7⟩:∃ k,a2=k:=⟨_,rfl⟩;have HP7:Hid (ST D A C bp wr a7):=(by rw [<- e7];exact hp5);have HK7:=hk5;have h7:a2<=a7/\a7<=a2+1:=(by omega);have hat7:a7<=100000000:=(by omega);clear e7;go_upto_region 21 with fail
      case' true =>
       go_upto_region 21 with (go_at_call 12;(with_reducible refine (wpick3_c D A C bp _ a2 hp5.out hat3).mono ?_);rintro e6 w6 ⟨rfl,hp6,hk6⟩;obtain ⟨a7,e7⟩:∃ k,a2+1=k:=⟨_,rfl⟩;have HP7:Hid (ST D A C bp w6 a7):=(by rw [<- e7];exact hp6);have HK7:=qqh (Kp.trans hk5.out hk6);have h7:a2<=a7/\a7<=a2+1:=(by omega);have hat7:a7<=100000000:=(by omega);clear hp6 hk6 e7;obtain ⟨z3,hz3⟩:∃ z,((pickV D a2 % 3:Nat):Int)=z:=⟨_,rfl⟩;rw [hz3];clear hz3)
      all_goals try exact ⟨⟨_,i+1,_,rfl,by go_num,by omega,by rw [ByteArray.size_append];omega,by omega,by omega,HP7,HK7⟩,by simp [intOf];omega⟩
      all_goals
       go_wp2_with (first
        | (go_at_call 38;(with_reducible refine (wplain0_c t _ ht1).mono ?_);rintro e8 w7 ⟨⟨pb,rfl⟩,hk8⟩;have HP7:=qqh (HP7.out.nil hk8);have HK7:=qqh (Kp.trans HK7.out hk8.toO);clear hk8)
        | (go_at_call 12;(with_reducible refine (wpick2_c D A C bp _ a7 HP7.out hat7).mono ?_);rintro e6 w7 ⟨rfl,hp6,hk6⟩;obtain ⟨z2,hz2⟩:∃ z,((pickV D a7 % 2:Nat):Int)=z:=⟨_,rfl⟩;rw [hz2];clear hz2;obtain ⟨d2,hd2⟩:∃ c,(z2 == 0)=c:=⟨_,rfl⟩;obtain ⟨a7,e7⟩:∃ k,a7+1=k:=⟨_,rfl⟩;have HP7:Hid (ST D A C bp w7 a7):=(by rw [<- e7];exact hp6);have HK7:=qqh (Kp.trans HK7.out hk6);have h7:a2<=a7/\a7<=a2+2:=(by omega);clear hp6 hk6 e7))
       all_goals try exact ⟨⟨_,i+1,_,rfl,by go_num,by omega,by simp only [ByteArray.size_append];show o2.size+(1+t.size+1)<=_;omega,by omega,by omega,HP7,HK7⟩,by simp [intOf];omega⟩
       all_goals
        cases pb
        all_goals try contradiction
       all_goals try (cases d2 <;> try contradiction)
       all_goals try clear hd2
       all_goals
        go_loopw [5] (fun x wx => ∃ (o3:ByteArray) (p j3 a8:Nat),x=.string o3/\o3.size<=250 * i+6+10 * j3/\j3<=p/\j3<=t.size/\a2<=a8/\a8<=a2+2+2 * j3/\Hid (ITR wx w7.heap.size t p)/\Hid (ST D A C bp wx a8)/\Hid (Kp (Only bp) w wx)) (fun _ wx => t.size - wx.iterPos w7.heap.size)
        case atStart => exact ⟨_,0,0,_,rfl,by rw [ByteArray.size_append];show o2.size+1<=_;omega,by omega,by omega,by omega,by omega,ITR.new _ t,HP7.out.nil ((Kp.refl _ _).alloc _),HK7.out.alloc _⟩
        case round =>
         obtain ⟨o3,p,j3,a8,rfl,ho3,hjp,hj3,ha5,ha6,hi8,hp8,hk8⟩:=hrel;have hkk:w.heap.size<=w7.heap.size:=HK7.out.size;by_cases hpt:p<t.size
         ·have nx:=Lib.run_next_any_at (P:=Tryz.prog) _ w7.heap.size _ p 0 hi8.out hpt;have hwd:=qqh (wwidth t p hpt);have hx:=decode_le t p;obtain ⟨y,hy⟩:∃ y,(Utf8.decode t p)=y:=⟨_,rfl⟩;rw [hy] at nx hwd hx;clear hy;obtain ⟨x,y⟩:=y;have hx:x<=2147483647:=hx;have hI:=qqh (hi8.out.at (p+y));have hK:=qqh (hk8.out.iterAt hkk t (p+y));have hP:=qqh (HP.out.iterAt hp8.out hkk t (p+y));have hat8:a8<=10000000:=(by omega);go_wp2_with (go_at_call 39;refine (wesc_c D A C bp _ a8 x false hP.out hat8 hx).mono ?_;rintro e4 w4 ⟨s,a',rfl,⟨hs,hs1,hs2⟩,hp4,hk4⟩;have hs:s.size<=10:=hs;have n9:¬ (9223372036854775807<o3.size+s.size):=(by omega);have hI4:=qqh (hI.out.kp hk4 (by unfold Only;omega));have HK4:=qqh (Kp.trans hK.out hk4);have HP4:=qqh hp4;clear hp4 hk4)
          go_roundw
          case rel => exact ⟨_,p+y,j3+1,a',rfl,by rw [ByteArray.size_append];omega,by have:=hwd.out;omega,by omega,by omega,by omega,hI4,HP4,HK4⟩
          case measure => rw [hI4.out.pos,hi8.out.pos];have:=hwd.out;omega
         ·have nx:=Lib.run_next_end_at (P:=Tryz.prog) _ w7.heap.size _ p 0 hi8.out hpt;have n9:¬ (9223372036854775807<o3.size+1):=(by omega);go_wp2_with fail
          exact ⟨⟨_,i+1,_,rfl,by go_num,by omega,by rw [ByteArray.size_append];show o3.size+1<=_;omega,by omega,by omega,hp8,hk8⟩,by simp [intOf];omega⟩
  ·have hii:¬ ((i:Int)<n):=(by omega);go_wp2_with fail
   go_ret;exact ⟨_,_,rfl,⟨by omega,by omega,by omega⟩,hp3.out,hk3.out⟩
theorem wtabI (L:List Int) (p:Nat) (hp:p<L.length):∃ x:Int,(L.map (Value.int .i32))[p]?=some (.int .i32 x):=⟨L[p],by simp [hp]⟩
def OwnR (w:World) (base:Nat) (v:Value) (zs:List Int):Prop:=w.ownsRow base 21 1 v zs.length (zs.map (Value.int .i32))
theorem info21:(Tryz.prog.info? 21).map (fun i => (i.zero,i.size,i.bytes))=some (some (.int .i32 0),1,4):=by kernel_rfl
theorem T115:ElemT 115 21 1 4:=by
 obtain ⟨i,hi,h0,h1,h2⟩:=info_parts info21;exact ⟨Tryz.underlying115,⟨i,_,hi,h0,h1,h2,rfl⟩,by decide⟩
theorem conv_ownR {w:World} {base:Nat} {v:Value} {zs:List Int} (h:OwnR w base v zs):∃ s:ByteArray,(convert 115 9 v).run Tryz.prog w=.ok (.string s) w/\s.size<=4 * zs.length:=by
 rcases h.2 with ⟨rfl,hn⟩ | ⟨g,cap,cur,rfl,hb,hg,h1,h2,h3,h4⟩
 ·exact ⟨_,run_convert_runes_nil (P:=Tryz.prog) w 115 9 21 0 0 Tryz.underlying115 Tryz.underlying21 Tryz.underlying9,by show 0<=_;omega⟩
 ·refine ⟨_,run_convert_runes (P:=Tryz.prog) w 115 9 21 ⟨g,0,none⟩ zs.length cap zs (qqr _) Tryz.underlying115 Tryz.underlying21 Tryz.underlying9 (fun j hj => ?_),?_⟩
  ·have:=World.ownsRow.cells h (g:=g) rfl j (.int .i32 (zs.getD j 0)) (by simp [hj]);simpa using this
  ·rw [List.take_length];exact runesBytes_size_le _
theorem word_c (n:Nat) (w:World) (hn:n<4294967296) :
  Calls Tryz.prog 42 #[.int .u32 n] w fun e w' => ∃ s:ByteArray,e=.returned (.string s)/\s.size<=24/\Kp Nil w w':=by
 go_enter Tryz.func42,Tryz.ntmps42;go_wp2_with fail
 go_loopw [3,8] (fun x y wr => ∃ (zs:List Int),zs.length<=n % 7/\y=.int .u32 zs.length/\Hid (OwnR wr w.heap.size x zs)/\Hid (Kp Nil w wr)) (fun _ y _ => 7 - (intOf y).toNat)
 case atStart => exact ⟨[],by simp,rfl,own_made rfl (qqr _),((Kp.refl Nil w).alloc _)⟩
 case round =>
  obtain ⟨zs,hz,rfl,hown,hk⟩:=hrel;obtain ⟨sa,sl,sc,rfl⟩:=IsSl.own hown.out;have hl7:zs.length<=6:=by omega
  by_cases hlt:zs.length<n % 7
  ·have hlt1:((zs.length:Nat):Int)<(n:Int) % 7:=(by omega);obtain ⟨x,hx⟩:=wtabI [97,66,55,95,45,32,34,39,92,10,9,46,35,61,228,20013,128512,31,127,91,93,13] ((n / 8+zs.length * (n / 32+7)) % 4294967296 % 22) (Nat.mod_lt _ (by decide));simp only [List.map] at hx;go_wp2_with (at_builtin;refine wpList_appF rfl T115 _ _ rfl w.heap.size _ zs.length (zs.map (Value.int .i32)) rfl (by exact own_alloc (own_alloc hown.out _) _) (wr.heap.size+1) 1 _ rfl [.int .i32 x] rfl (fun j u hu => by change ((wr.alloc _).alloc _).cell? ⟨wr.heap.size+1,j,none⟩=some u;rw [wcellN (by simp)];simpa using hu) (by intro u hu;simp at hu;subst hu;rfl) (by omega) (by omega) (by have:=hk.out.size;simp;omega) ?_)
   intro v' w1 hown1 hg1 _;have HO1:Hid (OwnR w1 w.heap.size v' (zs++[x])):=(by show OwnR _ _ _ _;unfold OwnR;simpa using hown1);have HK1:Hid (Kp Nil w w1):=Kp.grown ((hk.out.alloc _).alloc _) hg1 (fun k e => .inr (World.ownsRow.lt hown.out k e).1);clear hown1 hg1;have e1:IntKind.u32.wrap ((zs.length:Int)+1)=(zs.length:Int)+1:=(by show ((zs.length:Int)+1) % 4294967296=_;omega);go_wp2_with fail
   go_roundw
   case rel => exact ⟨zs++[x],by simp;omega,by simp,HO1,HK1⟩
   case measure => simp [intOf];omega
  ·have hlt1:¬ (((zs.length:Nat):Int)<(n:Int) % 7):=(by omega);obtain ⟨s,cv,hs⟩:=conv_ownR hown.out;go_wp2_with fail
   go_ret;exact ⟨_,rfl,by omega,hk.out⟩
theorem word_i (z:Int) (w:World) (h0:0<=z) (h1:z<4294967296) :
  Calls Tryz.prog 42 #[.int .u32 z] w fun e w' => ∃ s:ByteArray,e=.returned (.string s)/\s.size<=24/\Kp Nil w w':=by
 obtain ⟨n,rfl⟩:=Int.eq_ofNat_of_zero_le h0;exact word_c n w (by omega)
def OwnW (w:World) (base:Nat) (v:Value) (ss:List ByteArray):Prop:=w.ownsRow base 9 1 v ss.length (ss.map Value.string)/\∀ s ∈ ss,s.size<=24
theorem OwnW.keys {w:World} {base:Nat} {v:Value} {ss:List ByteArray} (h:OwnW w base v ss) (hl:ss.length<=3):KeysAt w (fun b => base<=b/\b<w.heap.size) v:=by
 obtain ⟨h,hs⟩:=h;have hlt:=World.ownsRow.lt h;rcases h.2 with ⟨rfl,hn⟩ | ⟨g,cap,cur,rfl,_⟩
 ·exact ⟨none,0,0,rfl,by omega,fun i hi => by omega⟩
 ·refine ⟨_,_,_,rfl,hl,fun i hi => ⟨g,ss[i],rfl,hlt g rfl,hs _ (List.getElem_mem hi),?_⟩⟩;have:=World.ownsRow.cells h (g:=g) rfl i (.string ss[i]) (by simp [hi]);rw [Addr.add_lit,Nat.zero_add] at this;exact this
theorem keysOf_c (n:Nat) (w:World) (hn:n<4294967296) :
  Calls Tryz.prog 17 #[.int .u32 n] w fun e w' => ∃ v:Value,e=.returned v/\KeysAt w' (fun b => w.heap.size<=b/\b<w'.heap.size) v/\Kp Nil w w':=by
 have e0:IntKind.u32.wrap (1+(n:Int) % 3)=1+(n:Int) % 3:=by show (1+(n:Int) % 3) % 4294967296=_;omega
 go_enter Tryz.func17,Tryz.ntmps17;go_wp2_with fail
 go_loopw [3,9] (fun x y wr => ∃ (ss:List ByteArray),ss.length<=1+n % 3/\y=.int .u32 ss.length/\Hid (OwnW wr w.heap.size x ss)/\Hid (Kp Nil w wr)) (fun _ y _ => 4 - (intOf y).toNat)
 case atStart => exact ⟨[],by simp,rfl,⟨own_made rfl (qqr _),fun _ h => by simp at h⟩,((Kp.refl Nil w).alloc _)⟩
 case round =>
  obtain ⟨ss,hz,rfl,hown,hk⟩:=hrel;obtain ⟨sa,sl,sc,rfl⟩:=IsSl.own hown.out.1;have hl7:ss.length<=3:=by omega
  by_cases hlt:ss.length<1+n % 3
  ·have hlt1:((ss.length:Nat):Int)<1+(n:Int) % 3:=(by omega);have e1:IntKind.u32.wrap ((ss.length:Int)+1)=(ss.length:Int)+1:=(by show ((ss.length:Int)+1) % 4294967296=_;omega);go_wp2_with (first
    | (go_at_call 42;refine (word_i _ _ (Int.emod_nonneg _ (by decide)) (Int.emod_lt_of_pos _ (by decide))).mono ?_;rintro e2 w2 ⟨s,rfl,hs,hk2⟩;have HO2:Hid (w2.ownsRow w.heap.size 9 1 (.slice sa sl sc) ss.length (ss.map Value.string)):=own_kp hown.out.1 hk2 (fun _ _ x => x);have HK2:Hid (Kp Nil w w2):=Kp.trans hk.out hk2;clear hk2)
    | (at_builtin;refine wpList_appF rfl T40 _ _ rfl w.heap.size _ ss.length (ss.map Value.string) rfl (by exact own_alloc HO2.out _) w2.heap.size 1 _ rfl [.string s] rfl (fun j u hu => by change (w2.alloc _).cell? ⟨w2.heap.size,j,none⟩=some u;rw [wcellN rfl];simpa using hu) (by intro u hu;simp at hu;subst hu;rfl) (by omega) (by omega) (by have:=HK2.out.size;simp;omega) ?_))
   intro v' w3 hown3 hg3 _;have HO3:Hid (OwnW w3 w.heap.size v' (ss++[s])):=⟨by simpa using hown3,fun x hx => by
    rcases List.mem_append.1 hx with h | h
    ·exact hown.out.2 x h
    ·rw [List.mem_singleton.1 h];exact hs⟩
   have HK3:Hid (Kp Nil w w3):=Kp.grown (HK2.out.alloc _) hg3 (fun k e => .inr (World.ownsRow.lt HO2.out k e).1);clear hown3 hg3;go_wp2_with fail
   go_roundw
   case rel => exact ⟨ss++[s],by simp;omega,by simp,HO3,HK3⟩
   case measure => simp [intOf];omega
  ·have hlt1:¬ (((ss.length:Nat):Int)<1+(n:Int) % 3):=(by omega);go_wp2_with fail
   go_ret;exact ⟨_,rfl,hown.out.keys hl7,hk.out⟩
theorem wtabS (L:List ByteArray) (m:Nat) (hL:∀ s ∈ L,s.size<=m) (p:Nat) (hp:p<L.length):∃ s:ByteArray,s.size<=m/\(L.map Value.string)[p]?=some (.string s) :=
 ⟨L[p],hL _ (List.getElem_mem hp),by simp [hp]⟩
def ScalR (w:World) (e:Ending) (w':World):Prop:=∃ (k:Int) (s:ByteArray),e=.returned (.agg #[.int .i64 k,.string s,.slice none 0 0,.slice none 0 0])/\(0<=k/\k<=7)/\s.size<=32/\Kp Nil w w'
theorem scal_end {w W:World} {A:Act} {k:Int} {s:ByteArray} (hB:Blk W w.heap.size [.int .i64 k,.string s,.slice none 0 0,.slice none 0 0] 43) (hk:Kp Nil w W) (h7:0<=k/\k<=7) (hs:s.size<=32) (hd:A.defers=[]) (ht:A.tmps[2]?=some (.pointer (some ⟨w.heap.size,0,none⟩))) :
  bodyPost Tryz.prog Tryz.f43 (ScalR w) Exit.ret A W:=by
 have b0:=hB.cell 0 rfl;have b1:=hB.cell 1 rfl;have b2:=hB.cell 2 rfl;have b3:=hB.cell 3 rfl;exact bodyPost_ret (v:=.agg #[.int .i64 k,.string s,.slice none 0 0,.slice none 0 0]) (by simp [results,Tryz.results43,go_sem,b0,b1,b2,b3,ht]) hd ⟨k,s,rfl,h7,hs,hk⟩
theorem scalar_c (n:Nat) (w:World) (hn:n<4294967296):Calls Tryz.prog 43 #[.int .u32 n] w (ScalR w):=by
 have hm:IntKind.i64.wrap ((n:Int) / 16)=(n:Int) / 16:=IntWalk.i64_in _ (by omega);have hcases:(n:Int) % 9=0\/(n:Int) % 9=1\/(n:Int) % 9=2\/(n:Int) % 9=3\/(n:Int) % 9=4\/(n:Int) % 9=5\/(n:Int) % 9=6\/(n:Int) % 9=7\/(n:Int) % 9=8:=by omega
 rcases hcases with h | h | h | h | h | h | h | h | h
 ·go_enter Tryz.func43,Tryz.ntmps43;go_wp2_with (go_at_call 42;refine (word_i _ _ (by omega) (by omega)).mono ?_;rintro e2 w2 ⟨s,rfl,hs,hk2⟩;have HK2:=qqh hk2;have HB2:=qqh ((Blk.new w [.int .i64 0,.string ⟨#[]⟩,.slice none 0 0,.slice none 0 0] 43).kpNil hk2);have b0:=HB2.out.cell 0 rfl;have b1:=HB2.out.cell 1 rfl;have b2:=HB2.out.cell 2 rfl;have b3:=HB2.out.cell 3 rfl;have bf:=HB2.out.free 0;have bf1:=HB2.out.free 1;have bf2:=HB2.out.free 2;have bf3:=HB2.out.free 3;clear hk2)
  exact scal_end (Blk.put (Blk.put (Blk.put (Blk.put HB2.out 0 _) 1 _) 2 _) 3 _) (Kp.setCell (Kp.setCell (Kp.setCell (Kp.setCell (Kp.trans ((Kp.refl _ _).alloc _) HK2.out) (.inr (qqr _)) _) (.inr (qqr _)) _) (.inr (qqr _)) _) (.inr (qqr _)) _) (by omega) (by omega) rfl rfl
 ·go_enter Tryz.func43,Tryz.ntmps43;go_wp2_with (go_at_call 42;refine (word_i _ _ (by omega) (by omega)).mono ?_;rintro e2 w2 ⟨s,rfl,hs,hk2⟩;have HK2:=qqh hk2;have HB2:=qqh ((Blk.new w [.int .i64 0,.string ⟨#[]⟩,.slice none 0 0,.slice none 0 0] 43).kpNil hk2);have b0:=HB2.out.cell 0 rfl;have b1:=HB2.out.cell 1 rfl;have b2:=HB2.out.cell 2 rfl;have b3:=HB2.out.cell 3 rfl;have bf:=HB2.out.free 0;have bf1:=HB2.out.free 1;have bf2:=HB2.out.free 2;have bf3:=HB2.out.free 3;clear hk2)
  exact scal_end (Blk.put (Blk.put (Blk.put (Blk.put HB2.out 0 _) 1 _) 2 _) 3 _) (Kp.setCell (Kp.setCell (Kp.setCell (Kp.setCell (Kp.trans ((Kp.refl _ _).alloc _) HK2.out) (.inr (qqr _)) _) (.inr (qqr _)) _) (.inr (qqr _)) _) (.inr (qqr _)) _) (by omega) (by omega) rfl rfl
 ·obtain ⟨s,hs,hx⟩:=wtabS [⟨#[116,114,117,101]⟩,⟨#[102,97,108,115,101]⟩] 32 (by decide) (n / 16 % 2) (Nat.mod_lt _ (by decide));simp only [List.map] at hx;go_enter Tryz.func43,Tryz.ntmps43;go_wp2_with fail
  refine scal_end (Blk.alloc (Blk.new w [.int .i64 3,.string s,.slice none 0 0,.slice none 0 0] 43) _) (((Kp.refl _ _).alloc _).alloc _) (by omega) hs rfl rfl
 ·obtain ⟨s,hs,hx⟩:=wtabS [⟨#[49,57,55,57,45,48,53,45,50,55,84,48,55,58,51,50,58,48,48,90]⟩,⟨#[49,57,55,57,45,48,53,45,50,55,84,48,48,58,51,50,58,48,48,46,57,57,57,57,57,57,45,48,55,58,48,48]⟩,⟨#[50,48,48,48,45,48,50,45,50,57,32,50,51,58,53,57,58,53,57,43,48,48,58,51,48]⟩] 32 (by decide) (n / 16 % 3) (Nat.mod_lt _ (by decide));simp only [List.map] at hx;go_enter Tryz.func43,Tryz.ntmps43;go_wp2_with fail
  refine scal_end (Blk.alloc (Blk.new w [.int .i64 4,.string s,.slice none 0 0,.slice none 0 0] 43) _) (((Kp.refl _ _).alloc _).alloc _) (by omega) hs rfl rfl
 ·obtain ⟨s,hs,hx⟩:=wtabS [⟨#[49,57,55,57,45,48,53,45,50,55,84,48,55,58,51,50,58,48,48]⟩,⟨#[50,48,50,52,45,49,50,45,51,49,32,48,48,58,48,48,58,48,48,46,53]⟩] 32 (by decide) (n / 16 % 2) (Nat.mod_lt _ (by decide));simp only [List.map] at hx;go_enter Tryz.func43,Tryz.ntmps43;go_wp2_with fail
  refine scal_end (Blk.alloc (Blk.new w [.int .i64 5,.string s,.slice none 0 0,.slice none 0 0] 43) _) (((Kp.refl _ _).alloc _).alloc _) (by omega) hs rfl rfl
 ·obtain ⟨s,hs,hx⟩:=wtabS [⟨#[49,57,55,57,45,48,53,45,50,55]⟩,⟨#[50,48,50,52,45,48,50,45,50,57]⟩] 32 (by decide) (n / 16 % 2) (Nat.mod_lt _ (by decide));simp only [List.map] at hx;go_enter Tryz.func43,Tryz.ntmps43;go_wp2_with fail
  refine scal_end (Blk.alloc (Blk.new w [.int .i64 6,.string s,.slice none 0 0,.slice none 0 0] 43) _) (((Kp.refl _ _).alloc _).alloc _) (by omega) hs rfl rfl
 ·obtain ⟨s,hs,hx⟩:=wtabS [⟨#[48,55,58,51,50,58,48,48]⟩,⟨#[50,51,58,53,57,58,53,57,46,49,50,51,52,53,54,55,56,57]⟩] 32 (by decide) (n / 16 % 2) (Nat.mod_lt _ (by decide));simp only [List.map] at hx;go_enter Tryz.func43,Tryz.ntmps43;go_wp2_with fail
  refine scal_end (Blk.alloc (Blk.new w [.int .i64 7,.string s,.slice none 0 0,.slice none 0 0] 43) _) (((Kp.refl _ _).alloc _).alloc _) (by omega) hs rfl rfl
 ·obtain ⟨s,hs,hx⟩:=wtabS [⟨#[49,46,48]⟩,⟨#[45,48,46,53,101,43,49,48]⟩,⟨#[43,54,46,54,50,54,101,45,51,52]⟩,⟨#[105,110,102]⟩,⟨#[45,105,110,102]⟩,⟨#[110,97,110]⟩,⟨#[43,110,97,110]⟩,⟨#[57,95,50,50,52,46,53,95,54]⟩,⟨#[49,101,48,54]⟩,⟨#[45,48,46,48]⟩] 32 (by decide) (n / 16 % 10) (Nat.mod_lt _ (by decide));simp only [List.map] at hx;go_enter Tryz.func43,Tryz.ntmps43;go_wp2_with fail
  refine scal_end (Blk.alloc (Blk.new w [.int .i64 2,.string s,.slice none 0 0,.slice none 0 0] 43) _) (((Kp.refl _ _).alloc _).alloc _) (by omega) hs rfl rfl
 ·obtain ⟨s,hs,hx⟩:=wtabS [⟨#[48]⟩,⟨#[43,57,57]⟩,⟨#[45,49,55]⟩,⟨#[49,95,48,48,48]⟩,⟨#[48,120,68,69,65,68,95,98,101,101,102]⟩,⟨#[48,111,55,53,53]⟩,⟨#[48,98,49,49,48,49,95,48,49,49,48]⟩,⟨#[57,50,50,51,51,55,50,48,51,54,56,53,52,55,55,53,56,48,55]⟩,⟨#[45,48]⟩,⟨#[53]⟩] 32 (by decide) (n / 16 % 10) (Nat.mod_lt _ (by decide));simp only [List.map] at hx;go_enter Tryz.func43,Tryz.ntmps43;go_wp2_with fail
  refine scal_end (Blk.alloc (Blk.new w [.int .i64 1,.string s,.slice none 0 0,.slice none 0 0] 43) _) (((Kp.refl _ _).alloc _).alloc _) (by omega) hs rfl rfl
end Go.Proofs.YtpgmddjgcgpoeaaGreat
