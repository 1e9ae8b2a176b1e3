/-
  A part of the proof.
-/
import Derived.Test.YtpgmddjgcgpoeaaGreatD25
import Derived.Test.YtpgmddjgcgpoeaaGreatD42
import Derived.Lib.ConvBytes
set_option linter.unusedVariables false
set_option linter.unusedSimpArgs false
set_option maxRecDepth 100000
set_option maxHeartbeats 8000000
namespace Go.Proofs.YtpgmddjgcgpoeaaGreat
open Go.RowKit
def BRow (w:World) (base:Nat) (v:Value) (l:List UInt8):Prop :=
 ∃ (g cap:Nat) (cells:Array Value) (fz:Nat × Nat),v=.slice (some ⟨g,0,none⟩) l.length cap/\base<=g/\w.heap[g]?=some (.cells cells 5 fz)/\l.length<=cap/\cap<=cells.size/\cells.size<=fz.1/\cap<=9223372036854775807/\∀ j,j<l.length->∃ x:UInt8,l[j]?=some x/\cells[j]?=some (.int .u8 (x.toNat:Int))
def WriteR (w:World) (e:Ending) (w':World):Prop:=∃ (v:Value) (l:List UInt8),e=.returned v/\l.length<=800000/\BRow w' w.heap.size v l/\Kp Nil w w'
def wat (bp:Nat) (w:World):Nat:=match w.cell? ⟨bp,1,none⟩ with
 | some v => (intOf v).toNat
 | none => 0
theorem ST.wat {D:Doc} {A:Option Addr} {C bp:Nat} {w:World} {a:Nat} (h:ST D A C bp w a):wat bp w=a:=by
 unfold Go.Proofs.YtpgmddjgcgpoeaaGreat.wat;rw [h.blk.cell 1 rfl];simp [intOf]
def wlft (n a:Nat):Nat:=if a<n then n - a+2 else if a % 5=0 then 1 else 0
theorem bytes_row (w:World) (s:ByteArray) (hs:s.size<=4294967296):BRow (Lib.bytesWorld w 5 s) w.heap.size (.slice (some ⟨w.heap.size,0,none⟩) s.size (grownCap w s.size 0 5)) s.data.toList:=by
 have h1:=grownCap_ge w s.size 0 5;have h2:=grownCap_le_maxLen w s.size 0 5 (by unfold maxLen;omega);have e:s.data.toList.length=s.size:=by simp
 have hsz:(Lib.bytesCells w 5 s).size=s.size+(grownCap w s.size 0 5 - s.size):=by simp [Lib.bytesCells]
 refine ⟨w.heap.size,grownCap w s.size 0 5,Lib.bytesCells w 5 s,_,by rw [e],qqr _,Lib.bytesWorld_at_new w 5 s,by rw [e];exact h1,by rw [hsz];omega,qqr _,by unfold maxLen at h2;omega,fun j hj => ?_⟩;rw [e] at hj;refine ⟨s.data.toList[j]'(by rw [e];exact hj),List.getElem?_eq_getElem _,?_⟩;simp [Lib.bytesCells,Array.getElem?_append,hj]
theorem bytes_kp (w:World) (s:ByteArray):Kp Nil w (Lib.bytesWorld w 5 s) :=
 ⟨by simp [Lib.bytesWorld,World.freeze,World.alloc,World.drew,-World.alloc_eq,-World.drew_eq],by simp [Lib.bytesWorld,World.freeze,World.alloc,World.drew,-World.alloc_eq,-World.drew_eq],by simp [Lib.bytesWorld,World.freeze,World.alloc,World.drew,-World.alloc_eq,-World.drew_eq],by rw [Lib.bytesWorld_size];omega,fun i hi _ => Lib.bytesWorld_at_old w 5 s i hi⟩
theorem BRow.mono {w:World} {base base':Nat} {v:Value} {l:List UInt8} (h:BRow w base v l) (hb:base'<=base):BRow w base' v l:=by
 obtain ⟨g,cap,cells,fz,e,h1,h2⟩:=h;exact ⟨g,cap,cells,fz,e,by omega,h2⟩
theorem toNil {a b c:World} {k:Nat} (h:Kp Nil a b) (h2:Kp (Only k) b c) (hk:a.heap.size<=k):Kp Nil a c:=Kp.then h h2 (fun i (e:i=k) => .inr (by omega))
theorem write_c (D:Doc) (A:Option Addr) (C:Nat) (S:Nat->Prop) (w:World) (v:Value) (hd:DocAt D A C w) (hA:∀ a,A=some a->a.block<w.heap.size) (hD:D.n<=1000) (hv:DocsAt w S v) (hS:∀ b,S b->b<w.heap.size) :
  Calls Tryz.prog 7 #[v,.slice A D.n C] w (WriteR w):=by
 obtain ⟨da,n,dc,rfl,hn,hit⟩:=hv;have HP0:Hid (ST D A C w.heap.size (w.alloc (.cells #[.slice A D.n C,.int .i64 0] 39)) 0):=⟨Blk.new w [.slice A D.n C,.int .i64 0] 39,hd.kp ((Kp.refl Nil w).alloc _) (fun _ _ h => h),fun a ha => Nat.ne_of_lt (hA a ha)⟩;have HIT:=qqh hit;have hSne:∀ b,S b->b ≠ w.heap.size:=fun b hb => Nat.ne_of_lt (hS b hb)
 clear hd hit;go_enter Tryz.func7,Tryz.ntmps7;go_wp2_with fail
 go_loopw [6,14] (fun x y wr => ∃ (o:ByteArray) (i a:Nat),x=.string o/\y=.int .i64 i/\i<=n/\o.size<=61000 * i/\a<=1010+16000 * i/\Hid (ST D A C w.heap.size wr a)/\Hid (Kp Nil w wr)) (fun _ y _ => n - (intOf y).toNat)
 case atStart => exact ⟨_,0,0,rfl,rfl,by omega,by show 0<=_;omega,by omega,HP0,(Kp.refl _ _).alloc _⟩
 case round =>
  obtain ⟨o,i,a,rfl,rfl,hi,ho,ha,hp,hk⟩:=hrel;have hlt:=hp.out.blk.lt;by_cases hin:i<n
  ·have hii:(i:Int)<n:=(by omega);obtain ⟨b,⟨vk,vy,v0,v1,v2,v3⟩,rfl,hb,⟨⟨k,hk0⟩,hky,hvv⟩,hcs⟩:=HIT.out i hin;dsimp only at hk0 hky;subst hk0;obtain ⟨ka,kn,kc,rfl,hkk⟩:=id hky;have hvv':ValAt w S 3 (.agg #[v0,v1,v2,v3]):=hvv;obtain ⟨k0,s0,ia,il,ic,ja,jl,jc,e0⟩:=hvv'.form;simp only [Value.agg.injEq,Array.mk.injEq,List.cons.injEq,and_true] at e0;obtain ⟨rfl,rfl,rfl,rfl⟩:=e0;have cN:∀ j (hj:j<6) (u:Value),(Six.cs (.int .i64 k,.slice ka kn kc,.int .i64 k0,.string s0,.slice ia il ic,.slice ja jl jc))[j]?=some u->wr.cell? ⟨b,i * 6+j,none⟩=some u:=fun j hj u hu => cell_kp ((hcs j hj).trans hu) hk.out (fun h => h)
   have d0:=cN 0 (by omega) _ rfl;have d1:=cN 1 (by omega) _ rfl;have d2:=cN 2 (by omega) _ rfl;have d3:=cN 3 (by omega) _ rfl;have d4:=cN 4 (by omega) _ rfl;have d5:=cN 5 (by omega) _ rfl;rw [Nat.add_zero] at d0;have HKY:=qqh hky;have HV:=qqh hvv';clear cN hcs hky hvv hvv' hkk;go_wp2_with fail
   have HPa:Hid (ST D A C w.heap.size (wr.alloc (.cells #[.int .i64 k,.slice ka kn kc,.int .i64 k0,.string s0,.slice ia il ic,.slice ja jl jc] 45)) a):=hp.out.nil ((Kp.refl _ _).alloc _);have HBa:=qqh (Blk.new wr [.int .i64 k,.slice ka kn kc,.int .i64 k0,.string s0,.slice ia il ic,.slice ja jl jc] 45);have HKa:Hid (Kp (Only w.heap.size) wr (wr.alloc (.cells #[.int .i64 k,.slice ka kn kc,.int .i64 k0,.string s0,.slice ia il ic,.slice ja jl jc] 45))):=(Kp.refl _ _).alloc _;obtain ⟨W,hW⟩:∃ W,wr.alloc (.cells #[.int .i64 k,.slice ka kn kc,.int .i64 k0,.string s0,.slice ia il ic,.slice ja jl jc] 45)=W:=⟨_,rfl⟩;rw [hW] at HPa HBa HKa ⊢;clear hW;obtain ⟨eb,heb⟩:∃ eb,wr.heap.size=eb:=⟨_,rfl⟩;rw [heb] at HBa hlt ⊢;clear heb;have hebn:eb ≠ w.heap.size:=Nat.ne_of_gt hlt
   go_loopw [6] (fun x wi => ∃ (o1:ByteArray) (a1:Nat),x=.string o1/\o1.size+4 * a<=o.size+4 * a1/\a<=a1/\(a1=a\/a1<=D.n+3\/(a1 % 5=4/\D.n<=a1/\(a1=a+4\/a1<=D.n+7)))/\Hid (ST D A C w.heap.size wi a1)/\Hid (Kp (Only w.heap.size) wr wi)/\Hid (Blk wi eb [.int .i64 k,.slice ka kn kc,.int .i64 k0,.string s0,.slice ia il ic,.slice ja jl jc] 45)) (fun _ wi => wlft D.n (wat w.heap.size wi))
   case atStart => exact ⟨_,_,rfl,by omega,by omega,.inl rfl,HPa,HKa,HBa⟩
   case round =>
    obtain ⟨o1,a1,rfl,ho1,ha1,hcase,hp1,hk1,hb1⟩:=hrel;have hat1:a1<=100000000:=(by omega);have hat2:a1+1<=10000000:=(by omega);have hat3:a1+1<=100000000:=(by omega);obtain ⟨c,hc⟩:∃ c,(((pickV D a1 % 5:Nat):Int) == 0)=c:=⟨_,rfl⟩;have HC:=qqh hc;cases c
    ·clear hc;go_upto_region 9 with (first
      | (go_at_call 12;(with_reducible refine (wpick5_c D A C _ _ a1 hp1.out hat1).mono ?_);rintro e3 w3 ⟨rfl,hp3,hk3⟩;have hc:=HC.out;have HP3:=qqh hp3;have HK3:=qqh (Kp.trans hk1.out hk3);have HB3:=qqh (hb1.out.kpOnly hk3 hebn);clear hp3 hk3)
      | (go_at_call 14;(with_reducible refine (wblanks_c D A C _ _ (a1+1) HP3.out hat3).mono ?_);rintro e4 w4 ⟨t,a4,rfl,⟨ht,rfl⟩,hp4,hk4⟩;have ht:t.size<=2:=ht;have n1:¬ (9223372036854775807<o1.size+t.size):=(by omega);have HP4:=qqh hp4;have HK4:=qqh (Kp.trans HK3.out hk4);have HB4:=qqh (HB3.out.kpOnly hk4 hebn);clear hp4 hk4))
     have ho2:(o1++t).size<=61000 * i+4040:=(by rw [ByteArray.size_append];omega);have ha5:a1<=1014+16000 * i:=(by omega);obtain ⟨o2,ho2e⟩:∃ o2,o1++t=o2:=⟨_,rfl⟩;rw [ho2e] at ho2 ⊢;have x0:=HB4.out.cell 0 rfl;have x1:=HB4.out.cell 1 rfl;have x2:=HB4.out.cell 2 rfl;have x3:=HB4.out.cell 3 rfl;have x4:=HB4.out.cell 4 rfl;have x5:=HB4.out.cell 5 rfl;have hat4:a1+1+1<=4000000:=(by omega);have hat4b:a1+1+1<=100000000:=(by omega);clear ho2e hc;rcases (show k=1\/k=2\/(k ≠ 1/\k ≠ 2) by omega) with rfl | rfl | hk3
     ·go_upto_region 12 with fail
      go_region_held3 (fun w' => w'.cell? ⟨eb,1,none⟩=some (.slice ka kn kc)/\w'.cell? ⟨eb,2,none⟩=some (.int .i64 k0)/\w'.cell? ⟨eb,3,none⟩=some (.string s0)/\w'.cell? ⟨eb,4,none⟩=some (.slice ia il ic)/\w'.cell? ⟨eb,5,none⟩=some (.slice ja jl jc)) (go_keep) (first
       | ((go_at_call 14;(with_reducible refine (wblanks_c D A C _ _ (a1+1+1) ?hst hat4b).mono ?_);(case hst => exact HP4.out.nil (Kp.refl _ _).drew);rintro e5 w5 ⟨t5,a5,rfl,⟨ht5,rfl⟩,hp5,hk5⟩;have ht5:t5.size<=2:=ht5;have m1:¬ (9223372036854775807<1+t5.size):=(by omega);have hat5:a1+1+1+1<=4000000:=(by omega);have HB5:=qqh ((HB4.out.drew).kpOnly hk5 hebn);have y51:=HB5.out.cell 1 rfl;have y52:=HB5.out.cell 2 rfl;have y53:=HB5.out.cell 3 rfl;have y54:=HB5.out.cell 4 rfl;have y55:=HB5.out.cell 5 rfl;have HP5:=qqh hp5;have HK5:=qqh (Kp.trans HK4.out.drew hk5);clear hp5 hk5))
       | ((go_at_call 15;(with_reducible refine (wkey_c D A C _ S _ (a1+1+1+1) _ ?hst hat5 ?hky hSne).mono ?_);(case hst => exact HP5.out);(case hky => exact HKY.out.kp (toNil hk.out HK5.out (qqr _)) (fun _ _ h => h));rintro e6 w6 ⟨t6,a6,rfl,⟨ht6,hx6,hy6⟩,hp6,hk6⟩;have ht6:t6.size<=760:=ht6;have m2:¬ (9223372036854775807<1+t5.size+t6.size):=(by omega);have hat6:a6<=100000000:=(by omega);have HB6:=qqh (HB5.out.kpOnly hk6 hebn);have y61:=HB6.out.cell 1 rfl;have y62:=HB6.out.cell 2 rfl;have y63:=HB6.out.cell 3 rfl;have y64:=HB6.out.cell 4 rfl;have y65:=HB6.out.cell 5 rfl;have HP6:=qqh hp6;have HK6:=qqh (Kp.trans HK5.out hk6);clear hp6 hk6))
       | ((go_at_call 14;(with_reducible refine (wblanks_c D A C _ _ a6 ?hst hat6).mono ?_);(case hst => exact HP6.out);rintro e7 w7 ⟨t7,a7,rfl,⟨ht7,rfl⟩,hp7,hk7⟩;have ht7:t7.size<=2:=ht7;have m3:¬ (9223372036854775807<1+t5.size+t6.size+t7.size):=(by omega);have m4:¬ (9223372036854775807<1+t5.size+t6.size+t7.size+1):=(by omega);have m5:¬ (9223372036854775807<o2.size+(1+t5.size+t6.size+t7.size+1)):=(by omega);have HB7:=qqh (HB6.out.kpOnly hk7 hebn);have y71:=HB7.out.cell 1 rfl;have y72:=HB7.out.cell 2 rfl;have y73:=HB7.out.cell 3 rfl;have y74:=HB7.out.cell 4 rfl;have y75:=HB7.out.cell 5 rfl;have HP7:=qqh hp7;have HK7:=qqh (Kp.trans HK6.out hk7);clear hp7 hk7)))
      have hat9:a6+1<=10000000:=(by omega);go_wp2_with (go_at_call 13;(with_reducible refine (wend_c D A C _ _ (a6+1) HP7.out hat9).mono ?_);rintro e9 w9 ⟨t9,a9,rfl,⟨ht9,rfl⟩,hp9,hk9⟩;have ht9:t9.size<=14:=ht9;have m6:¬ (9223372036854775807<o2.size+(1+t5.size+t6.size+t7.size+1)+t9.size):=(by omega);have HP9:=qqh hp9;have HK9:=qqh (Kp.trans HK7.out hk9);clear hp9 hk9)
      go_roundw
      case rel => exact ⟨_,i+1,a6+1+3,rfl,by go_num,by omega,by simp only [ByteArray.size_append];show o2.size+(1+t5.size+t6.size+t7.size+1)+t9.size<=_;omega,by omega,HP9,toNil hk.out HK9.out (qqr _)⟩
      case measure => simp [intOf];omega
     ·go_upto_region 14 with fail
      go_region_held3 (fun w' => w'.cell? ⟨eb,1,none⟩=some (.slice ka kn kc)/\w'.cell? ⟨eb,2,none⟩=some (.int .i64 k0)/\w'.cell? ⟨eb,3,none⟩=some (.string s0)/\w'.cell? ⟨eb,4,none⟩=some (.slice ia il ic)/\w'.cell? ⟨eb,5,none⟩=some (.slice ja jl jc)) (go_keep) (first
       | ((go_at_call 14;(with_reducible refine (wblanks_c D A C _ _ (a1+1+1) ?hst hat4b).mono ?_);(case hst => exact HP4.out.nil (Kp.refl _ _).drew);rintro e5 w5 ⟨t5,a5,rfl,⟨ht5,rfl⟩,hp5,hk5⟩;have ht5:t5.size<=2:=ht5;have m1:¬ (9223372036854775807<2+t5.size):=(by omega);have hat5:a1+1+1+1<=4000000:=(by omega);have HB5:=qqh ((HB4.out.drew).kpOnly hk5 hebn);have y51:=HB5.out.cell 1 rfl;have y52:=HB5.out.cell 2 rfl;have y53:=HB5.out.cell 3 rfl;have y54:=HB5.out.cell 4 rfl;have y55:=HB5.out.cell 5 rfl;have HP5:=qqh hp5;have HK5:=qqh (Kp.trans HK4.out.drew hk5);clear hp5 hk5))
       | ((go_at_call 15;(with_reducible refine (wkey_c D A C _ S _ (a1+1+1+1) _ ?hst hat5 ?hky hSne).mono ?_);(case hst => exact HP5.out);(case hky => exact HKY.out.kp (toNil hk.out HK5.out (qqr _)) (fun _ _ h => h));rintro e6 w6 ⟨t6,a6,rfl,⟨ht6,hx6,hy6⟩,hp6,hk6⟩;have ht6:t6.size<=760:=ht6;have m2:¬ (9223372036854775807<2+t5.size+t6.size):=(by omega);have hat6:a6<=100000000:=(by omega);have HB6:=qqh (HB5.out.kpOnly hk6 hebn);have y61:=HB6.out.cell 1 rfl;have y62:=HB6.out.cell 2 rfl;have y63:=HB6.out.cell 3 rfl;have y64:=HB6.out.cell 4 rfl;have y65:=HB6.out.cell 5 rfl;have HP6:=qqh hp6;have HK6:=qqh (Kp.trans HK5.out hk6);clear hp6 hk6))
       | ((go_at_call 14;(with_reducible refine (wblanks_c D A C _ _ a6 ?hst hat6).mono ?_);(case hst => exact HP6.out);rintro e7 w7 ⟨t7,a7,rfl,⟨ht7,rfl⟩,hp7,hk7⟩;have ht7:t7.size<=2:=ht7;have m3:¬ (9223372036854775807<2+t5.size+t6.size+t7.size):=(by omega);have m4:¬ (9223372036854775807<2+t5.size+t6.size+t7.size+2):=(by omega);have m5:¬ (9223372036854775807<o2.size+(2+t5.size+t6.size+t7.size+2)):=(by omega);have HB7:=qqh (HB6.out.kpOnly hk7 hebn);have y71:=HB7.out.cell 1 rfl;have y72:=HB7.out.cell 2 rfl;have y73:=HB7.out.cell 3 rfl;have y74:=HB7.out.cell 4 rfl;have y75:=HB7.out.cell 5 rfl;have HP7:=qqh hp7;have HK7:=qqh (Kp.trans HK6.out hk7);clear hp7 hk7)))
      have hat9:a6+1<=10000000:=(by omega);go_wp2_with (go_at_call 13;(with_reducible refine (wend_c D A C _ _ (a6+1) HP7.out hat9).mono ?_);rintro e9 w9 ⟨t9,a9,rfl,⟨ht9,rfl⟩,hp9,hk9⟩;have ht9:t9.size<=14:=ht9;have m6:¬ (9223372036854775807<o2.size+(2+t5.size+t6.size+t7.size+2)+t9.size):=(by omega);have HP9:=qqh hp9;have HK9:=qqh (Kp.trans HK7.out hk9);clear hp9 hk9)
      go_roundw
      case rel => exact ⟨_,i+1,a6+1+3,rfl,by go_num,by omega,by simp only [ByteArray.size_append];show o2.size+(2+t5.size+t6.size+t7.size+2)+t9.size<=_;omega,by omega,HP9,toNil hk.out HK9.out (qqr _)⟩
      case measure => simp [intOf];omega
     ·have g1:(k == 1)=false:=qqn hk3.1;have g2:(k == 2)=false:=qqn hk3.2;go_upto_region 10 with fail
      go_region_held3 (fun w' => w'.cell? ⟨eb,1,none⟩=some (.slice ka kn kc)/\w'.cell? ⟨eb,2,none⟩=some (.int .i64 k0)/\w'.cell? ⟨eb,3,none⟩=some (.string s0)/\w'.cell? ⟨eb,4,none⟩=some (.slice ia il ic)/\w'.cell? ⟨eb,5,none⟩=some (.slice ja jl jc)) (go_keep) (first
       | ((go_at_call 15;(with_reducible refine (wkey_c D A C _ S _ (a1+1+1) _ ?hst hat4 ?hky hSne).mono ?_);(case hst => exact HP4.out.nil (Kp.refl _ _).drew);(case hky => exact HKY.out.kp (toNil hk.out HK4.out.drew (qqr _)) (fun _ _ h => h));rintro e5 w5 ⟨t5,a5,rfl,⟨ht5,hx5,hy5⟩,hp5,hk5⟩;have ht5:t5.size<=760:=ht5;have hat5:a5<=100000000:=(by omega);have HB5:=qqh ((HB4.out.drew).kpOnly hk5 hebn);have y51:=HB5.out.cell 1 rfl;have y52:=HB5.out.cell 2 rfl;have y53:=HB5.out.cell 3 rfl;have y54:=HB5.out.cell 4 rfl;have y55:=HB5.out.cell 5 rfl;have HP5:=qqh hp5;have HK5:=qqh (Kp.trans HK4.out.drew hk5);clear hp5 hk5))
       | ((go_at_call 14;(with_reducible refine (wblanks_c D A C _ _ a5 ?hst hat5).mono ?_);(case hst => exact HP5.out);rintro e6 w6 ⟨t6,a6,rfl,⟨ht6,rfl⟩,hp6,hk6⟩;have ht6:t6.size<=2:=ht6;have m1:¬ (9223372036854775807<t5.size+t6.size):=(by omega);have m2:¬ (9223372036854775807<t5.size+t6.size+1):=(by omega);have hat6:a5+1<=100000000:=(by omega);have HB6:=qqh (HB5.out.kpOnly hk6 hebn);have y61:=HB6.out.cell 1 rfl;have y62:=HB6.out.cell 2 rfl;have y63:=HB6.out.cell 3 rfl;have y64:=HB6.out.cell 4 rfl;have y65:=HB6.out.cell 5 rfl;have HP6:=qqh hp6;have HK6:=qqh (Kp.trans HK5.out hk6);clear hp6 hk6))
       | ((go_at_call 14;(with_reducible refine (wblanks_c D A C _ _ (a5+1) ?hst hat6).mono ?_);(case hst => exact HP6.out);rintro e7 w7 ⟨t7,a7,rfl,⟨ht7,rfl⟩,hp7,hk7⟩;have ht7:t7.size<=2:=ht7;have m3:¬ (9223372036854775807<t5.size+t6.size+1+t7.size):=(by omega);have hat7:a5+1+1<=900000:=(by omega);have HB7:=qqh (HB6.out.kpOnly hk7 hebn);have y71:=HB7.out.cell 1 rfl;have y72:=HB7.out.cell 2 rfl;have y73:=HB7.out.cell 3 rfl;have y74:=HB7.out.cell 4 rfl;have y75:=HB7.out.cell 5 rfl;have HP7:=qqh hp7;have HK7:=qqh (Kp.trans HK6.out hk7);clear hp7 hk7))
       | ((go_at_call 16;(with_reducible refine (wval3_c D A C _ S hSne _ (a5+1+1) _ HP7.out hat7 ?hv).mono ?_);(case hv => exact ValAt.kp (toNil hk.out HK7.out (qqr _)) (fun _ _ h => h) HV.out);rintro e8 w8 ⟨t8,a8,rfl,⟨ht8,hx8,hy8⟩,hp8,hk8⟩;have ht8:t8.size<=55200:=ht8;have m4:¬ (9223372036854775807<t5.size+t6.size+1+t7.size+t8.size):=(by omega);have m5:¬ (9223372036854775807<o2.size+(t5.size+t6.size+1+t7.size+t8.size)):=(by omega);have HB8:=qqh (HB7.out.kpOnly hk8 hebn);have y81:=HB8.out.cell 1 rfl;have y82:=HB8.out.cell 2 rfl;have y83:=HB8.out.cell 3 rfl;have y84:=HB8.out.cell 4 rfl;have y85:=HB8.out.cell 5 rfl;have HP8:=qqh hp8;have HK8:=qqh (Kp.trans HK7.out hk8);clear hp8 hk8)))
      have hat9:a8<=10000000:=(by omega);go_wp2_with (go_at_call 13;(with_reducible refine (wend_c D A C _ _ a8 HP8.out hat9).mono ?_);rintro e9 w9 ⟨t9,a9,rfl,⟨ht9,rfl⟩,hp9,hk9⟩;have ht9:t9.size<=14:=ht9;have m6:¬ (9223372036854775807<o2.size+(t5.size+t6.size+1+t7.size+t8.size)+t9.size):=(by omega);have HP9:=qqh hp9;have HK9:=qqh (Kp.trans HK8.out hk9);clear hp9 hk9)
      go_roundw
      case rel => exact ⟨_,i+1,a8+3,rfl,by go_num,by omega,by simp only [ByteArray.size_append];show o2.size+(t5.size+t6.size+1+t7.size+t8.size)+t9.size<=_;omega,by omega,HP9,toNil hk.out HK9.out (qqr _)⟩
      case measure => simp [intOf];omega
    ·clear hc;go_wp2_with (first
      | (go_at_call 12;(with_reducible refine (wpick5_c D A C _ _ a1 hp1.out hat1).mono ?_);rintro e3 w3 ⟨rfl,hp3,hk3⟩;have hc:=HC.out;have HP3:=qqh hp3;have HK3:=qqh (Kp.trans hk1.out hk3);have HB3:=qqh (hb1.out.kpOnly hk3 hebn);clear hp3 hk3)
      | (go_at_call 13;(with_reducible refine (wend_c D A C _ _ (a1+1) HP3.out hat2).mono ?_);rintro e4 w4 ⟨t,a4,rfl,⟨ht,rfl⟩,hp4,hk4⟩;have ht:t.size<=14:=ht;have n1:¬ (9223372036854775807<o1.size+t.size):=(by omega);have HP4:=qqh hp4;have HK4:=qqh (Kp.trans HK3.out hk4);have HB4:=qqh (HB3.out.kpOnly hk4 hebn);clear hp4 hk4))
     have hz:pickV D a1 % 5=0:=(by have:=HC.out;rw [beq_iff_eq] at this;omega);have hz2:D.n<=a1->a1 % 5=0:=fun h => by unfold pickV at hz;rw [if_neg (by omega)] at hz;omega
     go_roundw
     case rel =>
      refine ⟨_,a1+1+3,rfl,by rw [ByteArray.size_append];omega,by omega,?_,HP4,HK4,HB4⟩;by_cases hlt2:a1<D.n
      ·right;left;omega
      ·have:=hz2 (by omega);right;right;omega
     case measure =>
      rw [HP4.out.wat,hp1.out.wat];unfold wlft;by_cases hlt2:a1<D.n
      ·rw [if_pos hlt2];split
       ·omega
       ·split <;> omega
      ·have:=hz2 (by omega);rw [if_neg hlt2,if_pos this,if_neg (by omega),if_neg (by omega)];omega
  ·have hii:¬ ((i:Int)<n):=(by omega);have cv:=Lib.run_convert_string_bytes (P:=Tryz.prog) wr 9 22 5 o Tryz.underlying9 Tryz.underlying22 Tryz.underlying5;go_wp2_with fail
   go_ret;exact ⟨_,_,rfl,by simp;omega,(bytes_row wr o (by omega)).mono (Nat.le_of_lt hlt),Kp.trans hk.out (bytes_kp wr o)⟩
end Go.Proofs.YtpgmddjgcgpoeaaGreat
