/-
  A part of the proof.
-/
import Derived.Test.YtpgmddjgcgpoeaaGreatD12
import Derived.Test.YtpgmddjgcgpoeaaGreatD10
import Derived.Deep.RegionLaw
set_option linter.unusedVariables false
set_option linter.unusedSimpArgs false
set_option maxRecDepth 100000
set_option maxHeartbeats 8000000
namespace Go.Proofs.YtpgmddjgcgpoeaaGreat
open Go.RowKit
theorem wcellN {w:World} {b:Nat} (hb:b=w.heap.size) (X:Array Value) (t:TypeId) (fr:Nat × Nat) (j:Nat):(w.alloc (.cells X t fr)).cell? ⟨b,j,none⟩=X[j]?:=by subst hb;exact World.cell?_alloc_mark w X t fr j
theorem wand15 (x:Nat) (hx:x<9223372036854775808):∃ q:Nat,q<16/\bits BinOp.and IntKind.i64 (x:Int) 15=(q:Int):=by
 have hq:x &&& 15<=15:=Nat.and_le_right;refine ⟨x &&& 15,by omega,?_⟩;have h:(BitVec.ofNat 64 x &&& BitVec.ofNat 64 15).toNat=x &&& 15:=by
  rw [BitVec.toNat_and,BitVec.toNat_ofNat,BitVec.toNat_ofNat,Nat.mod_eq_of_lt (by omega),Nat.mod_eq_of_lt (by omega)]
 simp only [bits];show IntKind.i64.wrap (((BitVec.ofInt 64 (x:Int) &&& BitVec.ofInt 64 ((15:Nat):Int)).toNat:Nat):Int)=_;rw [BitVec.ofInt_natCast,BitVec.ofInt_natCast,h,IntWalk.i64_in _ (by omega)]
theorem whex_c (v n:Nat) (w:World) (hv:v<=2147483647) (hn:1<=n) (hn2:n<=8) :
  Calls Tryz.prog 67 #[.int .i64 v,.int .i64 n] w fun e w' => ∃ s:ByteArray,e=.returned (.string s)/\s.size=n/\Kp Nil w w':=by
 have e1:IntKind.i64.wrap ((n:Int) - 1)=(n:Int) - 1:=IntWalk.i64_in _ (by omega);go_enter Tryz.func67,Tryz.ntmps67;go_wp2_with fail
 go_loopw [5,6] (fun x y wr => ∃ (m:Nat) (l:List UInt8),m<=n/\y=.int .i64 ((m:Int) - 1)/\l.length+m=n/\Hid (OwnB wr w.heap.size x l)/\Hid (Kp Nil w wr)) (fun _ y _ => (intOf y+1).toNat)
 case atStart => exact ⟨n,[],by omega,rfl,by simp,own_made rfl (qqr _),((Kp.refl Nil w).alloc _)⟩
 case round =>
  obtain ⟨m,l,hm,rfl,hl,hown,hk⟩:=hrel;obtain ⟨sa,sl,sc,rfl⟩:=IsSl.own hown;obtain rfl | ⟨m,rfl⟩:m=0\/∃ k,m=k+1:=by cases m;exact .inl rfl;exact .inr ⟨_,rfl⟩
  ·have cv:=conv_own hown.out;rw [show (((0:Nat):Int) - 1)=-1 from rfl];go_wp2_with fail
   go_ret;exact ⟨_,rfl,hl,hk.out⟩
  ·have e2:(((m+1:Nat):Int) - 1)=(m:Int):=(by omega);obtain ⟨q,hq,hqe⟩:=wand15 (v / 2 ^ (4 * m)) (Nat.lt_of_le_of_lt (Nat.div_le_self _ _) (by omega));push_cast at hqe;have hq22:q<22:=(by omega);obtain ⟨B,hB⟩:∃ B:UInt8,B=(⟨#[48,49,50,51,52,53,54,55,56,57,97,98,99,100,101,102,65,66,67,68,69,70]⟩:ByteArray)[q]'hq22:=⟨_,rfl⟩;have HB:=qqh hB;have e3:IntKind.i64.wrap ((m:Int) - 1)=(m:Int) - 1:=IntWalk.i64_in _ (by omega);rw [e2];clear e2 hB;go_wp2_with (at_builtin;refine wpList_app_bytes rfl _ _ rfl w.heap.size _ l [B] rfl (by exact own_alloc hown.out _) wr.heap.size 0 _ rfl ?c1 ?c2 ?c3 ?_)
   case c1 =>
    intro j hj;rw [wcellN (by simp)]
    match j,hj with
    | 0,_ => rw [HB.out];rfl
   case c2 => simp;omega
   case c3 => have:=hk.out.size;simp;omega
   intro v' w1 hown1 hg1;have HO1:Hid (OwnB w1 w.heap.size v' (l++[B])):=hown1;have HK1:Hid (Kp Nil w w1):=Kp.grownOwn (hk.out.alloc _) (by exact own_alloc hown.out _) hg1;clear hown1 hg1;go_wp2_with fail
   go_roundw
   case rel => exact ⟨m,l++[B],by omega,rfl,by simp;omega,HO1,HK1⟩
   case measure => simp [intOf]
theorem wcell_new {w:World} {b:Nat} (hb:b=w.heap.size) (X:Array Value) (t:TypeId) (fr:Nat × Nat) (j:Nat):(w.alloc (.cells X t fr)).cell? ⟨b,j,none⟩=X[j]?:=by subst hb;exact World.cell?_alloc_mark w X t fr j
theorem Kp.cellO {w w':World} {b:Nat} {a:Addr} {v:Value} (k:Kp (Only b) w w') (h:w.cell? a=some v) (hb:a.block ≠ b):w'.cell? a=some v :=
 (World.cell?_of_block (k.block a.block (World.block_lt_of_cell? (w:=w) (a:=a) h) hb)).trans h
theorem wne {W:World} {b r:Nat} (h:b<W.heap.size):(⟨W.heap.size,r,none⟩:Addr).block ≠ b:=Nat.ne_of_gt h
theorem wne1 {W:World} {b r:Nat} (h:b<W.heap.size):(⟨W.heap.size+1,r,none⟩:Addr).block ≠ b:=by show W.heap.size+1 ≠ b;omega
theorem wnext {X:Obj} {r:Nat} {v:Value} (z:∀ W:World,(W.alloc X).cell? ⟨W.heap.size,r,none⟩=some v) (W:World) (o:Obj):((W.alloc o).alloc X).cell? ⟨W.heap.size+1,r,none⟩=some v:=by
 have h:=z (W.alloc o);rwa [World.size_alloc] at h
theorem end5 {r:Nat} (h:r<5):∃ s:ByteArray,s.size<=10/\∀ W:World,(W.alloc (.cells #[.string ⟨#[]⟩,.string ⟨#[]⟩,.string ⟨#[35,32,97,32,114,101,109,97,114,107]⟩,.string ⟨#[35]⟩,.string ⟨#[35,61,32,91,120,93,32,34,32,39]⟩] 9)).cell? ⟨W.heap.size,r,none⟩=some (.string s):=by
 rcases lt5 h with rfl | rfl | rfl | rfl | rfl
 ·exact ⟨⟨#[]⟩,by decide,fun W => by rw [wcell_new rfl];rfl⟩
 ·exact ⟨⟨#[]⟩,by decide,fun W => by rw [wcell_new rfl];rfl⟩
 ·exact ⟨⟨#[35,32,97,32,114,101,109,97,114,107]⟩,by decide,fun W => by rw [wcell_new rfl];rfl⟩
 ·exact ⟨⟨#[35]⟩,by decide,fun W => by rw [wcell_new rfl];rfl⟩
 ·exact ⟨⟨#[35,61,32,91,120,93,32,34,32,39]⟩,by decide,fun W => by rw [wcell_new rfl];rfl⟩
theorem end3 {r:Nat} (h:r<3):∃ s:ByteArray,s.size<=2/\∀ W:World,(W.alloc (.cells #[.string ⟨#[10]⟩,.string ⟨#[10]⟩,.string ⟨#[13,10]⟩] 9)).cell? ⟨W.heap.size,r,none⟩=some (.string s):=by
 rcases (show r=0\/r=1\/r=2 by omega) with rfl | rfl | rfl
 ·exact ⟨⟨#[10]⟩,by decide,fun W => by rw [wcell_new rfl];rfl⟩
 ·exact ⟨⟨#[10]⟩,by decide,fun W => by rw [wcell_new rfl];rfl⟩
 ·exact ⟨⟨#[13,10]⟩,by decide,fun W => by rw [wcell_new rfl];rfl⟩
theorem wend_c (D:Doc) (A:Option Addr) (C bp:Nat) (w:World) (at_:Nat) (hp:ST D A C bp w at_) (hat:at_<=10000000) :
  Calls Tryz.prog 13 #[.pointer (some ⟨bp,0,none⟩)] w (WR D A C bp w (fun l a => l<=14/\a=at_+3)):=by
 have HP:=qqh hp;have hlt:=hp.blk.lt;clear hp;have h5:=Nat.mod_lt (pickV D (at_+1)) (show 0<5 by omega);have h3:=Nat.mod_lt (pickV D (at_+1+1)) (show 0<3 by omega);obtain ⟨r5,hr5⟩:∃ r,pickV D (at_+1) % 5=r:=⟨_,rfl⟩;obtain ⟨r3,hr3⟩:∃ r,pickV D (at_+1+1) % 3=r:=⟨_,rfl⟩;rw [hr5] at h5;rw [hr3] at h3;obtain ⟨s5,hl5,z5⟩:=end5 h5;obtain ⟨s3,hl3,z3⟩:=end3 h3;have zz5:=fun (W:World) (o:Obj) => Lib.cell?_alloc_some o (z5 W)
 have zz3:=fun (W:World) (o:Obj) => Lib.cell?_alloc_some o (z3 W)
 have zn5:=wnext z5;have zn3:=wnext z3;have R5:=qqh hr5;have R3:=qqh hr3;clear hr5 hr3;have HPd:Hid (ST D A C bp w.drew at_):=HP.out.nil ((Kp.refl Nil w).drew);have HKd:Hid (Kp (Only bp) w w.drew):=(Kp.refl _ w).drew;have i5:(r5:Int)<5:=by omega
 have i3:(r3:Int)<3:=by omega
 go_enter Tryz.func13,Tryz.ntmps13;go_upto_region 1 with fail
 go_region_law (first
  | (go_simp;go_at_call 14;(with_reducible refine (wblanks_c D A C bp _ at_ ?hst ?hle).mono ?_);(case hst => first | exact HPd.out | exact HPd.out.nil ((Kp.refl _ _).alloc _) | exact HPd.out.nil (((Kp.refl _ _).alloc _).alloc _));(case hle => omega);rintro e1 w1 ⟨s1,a1,rfl,⟨hl1,rfl⟩,hp1,hk1⟩;have HP1:=qqh hp1;have hl1:s1.size<=2:=hl1;have n1:¬ (9223372036854775807<s1.size+s5.size):=(by omega);have n2:¬ (9223372036854775807<(s1++s5).size+s3.size):=(by rw [ByteArray.size_append];omega);have n3:¬ (9223372036854775807<s1.size+s5.size+s3.size):=(by omega);have HK1:Hid (Kp (Only bp) w _):=(by first | exact Kp.trans HKd.out hk1 | exact Kp.trans (HKd.out.alloc _) hk1 | exact Kp.trans ((HKd.out.alloc _).alloc _) hk1);(first | have y5:=Kp.cellO hk1 y5 d5 | have y5:=Kp.cellO hk1 (q5 _) d5 | (have d5:=wne (r:=r5) HPd.out.blk.lt;have y5:=Kp.cellO hk1 (z5 _) d5) | (have d5:=wne (r:=r5) HPd.out.blk.lt;have y5:=Kp.cellO hk1 (Lib.cell?_alloc_some _ (z5 _)) d5) | (have d5:=wne1 (r:=r5) HPd.out.blk.lt;have y5:=Kp.cellO hk1 (zn5 _ _) d5) | skip);(try have q5:=fun o => Lib.cell?_alloc_some o y5);(first | have y3:=Kp.cellO hk1 y3 d3 | have y3:=Kp.cellO hk1 (q3 _) d3 | (have d3:=wne (r:=r3) HPd.out.blk.lt;have y3:=Kp.cellO hk1 (z3 _) d3) | (have d3:=wne (r:=r3) HPd.out.blk.lt;have y3:=Kp.cellO hk1 (Lib.cell?_alloc_some _ (z3 _)) d3) | (have d3:=wne1 (r:=r3) HPd.out.blk.lt;have y3:=Kp.cellO hk1 (zn3 _ _) d3) | skip);(try have q3:=fun o => Lib.cell?_alloc_some o y3);clear hp1 hk1)
  | (go_simp;go_at_call 12;(with_reducible refine (wpick5_c D A C bp _ (at_+1) ?hst ?hle).mono ?_);(case hst => first | exact HP1.out | exact HP1.out.nil ((Kp.refl _ _).alloc _) | exact HP1.out.nil (((Kp.refl _ _).alloc _).alloc _));(case hle => omega);rintro e2 w2 ⟨rfl,hp2,hk2⟩;rw [R5.out];have HP2:=qqh hp2;have HK2:Hid (Kp (Only bp) w _):=(by first | exact Kp.trans HK1.out hk2 | exact Kp.trans (HK1.out.alloc _) hk2 | exact Kp.trans ((HK1.out.alloc _).alloc _) hk2);(first | have y5:=Kp.cellO hk2 y5 d5 | have y5:=Kp.cellO hk2 (q5 _) d5 | (have d5:=wne (r:=r5) HP1.out.blk.lt;have y5:=Kp.cellO hk2 (z5 _) d5) | (have d5:=wne (r:=r5) HP1.out.blk.lt;have y5:=Kp.cellO hk2 (Lib.cell?_alloc_some _ (z5 _)) d5) | (have d5:=wne1 (r:=r5) HP1.out.blk.lt;have y5:=Kp.cellO hk2 (zn5 _ _) d5) | skip);(try have q5:=fun o => Lib.cell?_alloc_some o y5);(first | have y3:=Kp.cellO hk2 y3 d3 | have y3:=Kp.cellO hk2 (q3 _) d3 | (have d3:=wne (r:=r3) HP1.out.blk.lt;have y3:=Kp.cellO hk2 (z3 _) d3) | (have d3:=wne (r:=r3) HP1.out.blk.lt;have y3:=Kp.cellO hk2 (Lib.cell?_alloc_some _ (z3 _)) d3) | (have d3:=wne1 (r:=r3) HP1.out.blk.lt;have y3:=Kp.cellO hk2 (zn3 _ _) d3) | skip);(try have q3:=fun o => Lib.cell?_alloc_some o y3);clear hp2 hk2)
  | (go_simp;go_at_call 12;(with_reducible refine (wpick3_c D A C bp _ (at_+1+1) ?hst ?hle).mono ?_);(case hst => first | exact HP2.out | exact HP2.out.nil ((Kp.refl _ _).alloc _) | exact HP2.out.nil (((Kp.refl _ _).alloc _).alloc _));(case hle => omega);rintro e3 w3 ⟨rfl,hp3,hk3⟩;rw [R3.out];have HP3:=qqh hp3;have HK3:Hid (Kp (Only bp) w _):=(by first | exact Kp.trans HK2.out hk3 | exact Kp.trans (HK2.out.alloc _) hk3 | exact Kp.trans ((HK2.out.alloc _).alloc _) hk3);(first | have y5:=Kp.cellO hk3 y5 d5 | have y5:=Kp.cellO hk3 (q5 _) d5 | (have d5:=wne (r:=r5) HP2.out.blk.lt;have y5:=Kp.cellO hk3 (z5 _) d5) | (have d5:=wne (r:=r5) HP2.out.blk.lt;have y5:=Kp.cellO hk3 (Lib.cell?_alloc_some _ (z5 _)) d5) | (have d5:=wne1 (r:=r5) HP2.out.blk.lt;have y5:=Kp.cellO hk3 (zn5 _ _) d5) | skip);(try have q5:=fun o => Lib.cell?_alloc_some o y5);(first | have y3:=Kp.cellO hk3 y3 d3 | have y3:=Kp.cellO hk3 (q3 _) d3 | (have d3:=wne (r:=r3) HP2.out.blk.lt;have y3:=Kp.cellO hk3 (z3 _) d3) | (have d3:=wne (r:=r3) HP2.out.blk.lt;have y3:=Kp.cellO hk3 (Lib.cell?_alloc_some _ (z3 _)) d3) | (have d3:=wne1 (r:=r3) HP2.out.blk.lt;have y3:=Kp.cellO hk3 (zn3 _ _) d3) | skip);(try have q3:=fun o => Lib.cell?_alloc_some o y3);clear hp3 hk3))
 all_goals
  go_wp2_with fail
  go_ret;exact ⟨_,_,rfl,⟨by simp only [ByteArray.size_append];omega,rfl⟩,
   (by first | exact HP3.out | exact HP3.out.nil ((Kp.refl _ _).alloc _) | exact HP3.out.nil (((Kp.refl _ _).alloc _).alloc _)),
   (by first | exact HK3.out | exact HK3.out.alloc _ | exact (HK3.out.alloc _).alloc _)⟩
end Go.Proofs.YtpgmddjgcgpoeaaGreat
