/-
  A part of the proof.
-/
import Derived.Test.YtpgmddjgcgpoeaaGreatD23
import Derived.Test.YtpgmddjgcgpoeaaGreatD24
import Derived.Deep.RegionLaw
set_option linter.unusedVariables false
set_option linter.unusedSimpArgs false
set_option maxRecDepth 100000
set_option maxHeartbeats 8000000
namespace Go.Proofs.YtpgmddjgcgpoeaaGreat
open Go.RowKit
theorem value_step (A:Option Addr) (n C ab d:Nat) (hd:d<=2)
  (ih:∀ (a:Nat) (w:World),NumAt w ab A n->Blk w ab [.int .i64 a] 3->a+takes d<=100000->Calls Tryz.prog 18 #[.slice A n C,.pointer (some ⟨ab,0,none⟩),.int .i64 d] w (ValR ab d a w))
  (a:Nat) (w:World) (hn:NumAt w ab A n) (hb:Blk w ab [.int .i64 a] 3) (ha:a+takes (d+1)<=100000) :
  Calls Tryz.prog 18 #[.slice A n C,.pointer (some ⟨ab,0,none⟩),.int .i64 ((d:Int)+1)] w (ValR ab (d+1) a w):=by
 have c0:=hb.cell 0 rfl;have f0:=hb.free 0;have hlt:=hb.lt;have HB:=qqh hb;have c1:=fun o => Lib.cell?_alloc_some (W:=w) o c0
 have htk:takes (d+1)=1+3 * takes d:=rfl;have m1:IntKind.i64.wrap ((a:Int) * 2654435)=(a:Int) * 2654435:=IntWalk.i64_in _ (by omega);have m2:IntKind.i64.wrap ((a:Int)+1)=(a:Int)+1:=IntWalk.i64_in _ (by omega);have m3:IntKind.i64.wrap ((d:Int)+1 - 1)=(d:Int):=by rw [show (d:Int)+1 - 1=d by omega];exact IntWalk.i64_in _ (by omega)
 have m5:IntKind.i64.wrap (d:Int)=(d:Int):=IntWalk.i64_in _ (by omega);have m4:(0:Int)<(d:Int)+1:=by omega
 have hsz:(w.setCell ⟨ab,0,none⟩ (.int .i64 ((a:Int)+1))).heap.size=w.heap.size:=by simp
 have HR:Hid (Blk ((w.setCell ⟨ab,0,none⟩ (.int .i64 ((a:Int)+1))).alloc (.cells #[.int .i64 0,.string ⟨#[]⟩,.slice none 0 0,.slice none 0 0] 43)) w.heap.size [.int .i64 0,.string ⟨#[]⟩,.slice none 0 0,.slice none 0 0] 43):=by
  have:=Blk.new (w.setCell ⟨ab,0,none⟩ (.int .i64 ((a:Int)+1))) [.int .i64 0,.string ⟨#[]⟩,.slice none 0 0,.slice none 0 0] 43;rw [hsz] at this;exact this
 have HA:Hid (Blk ((w.setCell ⟨ab,0,none⟩ (.int .i64 ((a:Int)+1))).alloc (.cells #[.int .i64 0,.string ⟨#[]⟩,.slice none 0 0,.slice none 0 0] 43)) ab [.int .i64 ((a+1:Nat):Int)] 3):=(hb.putE 0 _ (by push_cast;rfl)).alloc _;have HK:Hid (Kp (Only ab) w ((w.setCell ⟨ab,0,none⟩ (.int .i64 ((a:Int)+1))).alloc (.cells #[.int .i64 0,.string ⟨#[]⟩,.slice none 0 0,.slice none 0 0] 43))):=(Kp.putOnly (Kp.refl _ _) _).alloc _;have HV0:∀ K:Int,Hid (VL w ab d K [] (.slice none 0 0) (a+1) (((w.setCell ⟨ab,0,none⟩ (.int .i64 ((a:Int)+1))).alloc (.cells #[.int .i64 0,.string ⟨#[]⟩,.slice none 0 0,.slice none 0 0] 43)).alloc (.cells #[.int .i64 K,.string ⟨#[]⟩,.slice none 0 0,.slice none 0 0] 43))):=fun K => by
  refine ⟨HK.out.alloc _,HA.out.alloc _,HR.out.alloc _,?_,World.ownsRow_nil _ _ _ _,fun q hq => by simp at hq,hlt⟩;have:=Blk.new ((w.setCell ⟨ab,0,none⟩ (.int .i64 ((a:Int)+1))).alloc (.cells #[.int .i64 0,.string ⟨#[]⟩,.slice none 0 0,.slice none 0 0] 43)) [.int .i64 K,.string ⟨#[]⟩,.slice none 0 0,.slice none 0 0] 43;rw [World.size_alloc,hsz] at this;exact this
 have HF:Hid (∀ (A:Act) (w2:World) (k:Int) (s:ByteArray),s.size<=32->Kp Nil ((w.setCell ⟨ab,0,none⟩ (.int .i64 ((a:Int)+1))).alloc (.cells #[.int .i64 0,.string ⟨#[]⟩,.slice none 0 0,.slice none 0 0] 43)) w2->A.defers=[]->A.tmps[6]?=some (.pointer (some ⟨w.heap.size,0,none⟩)) ->
   bodyPost Tryz.prog Tryz.f18 (ValR ab (d+1) a w) Exit.ret A ((((w2.setCell ⟨w.heap.size,0,none⟩ (.int .i64 k)).setCell ⟨w.heap.size,1,none⟩ (.string s)).setCell ⟨w.heap.size,2,none⟩ (.slice none 0 0)).setCell ⟨w.heap.size,3,none⟩ (.slice none 0 0))) :=
  fun A w2 k s hs hk hd ht => valueR_fin (HR.out.kpNil hk) (ValAt.scal _ _ (d+1) k hs (KeysAt.nil _ _ _ _)) (HA.out.kpNil hk) hlt (by omega) (by show a+1<=a+(1+3 * takes d);omega) (Kp.trans HK.out hk.toO) hd ht
 have HN:=qqh hn;have IH:=qqh ih;clear hb hsz ih;go_enter Tryz.func18,Tryz.ntmps18;go_upto_if 22 with fail;go_cut [7,22] from 23 to 28 (fun c _ wx => ∃ x:Int,c=.int .u32 x/\0<=x/\x<4294967296/\wx=w.alloc (.cells #[.int .i64 0,.string ⟨#[]⟩,.slice none 0 0,.slice none 0 0] 43))
 case first =>
  by_cases hln:a<n
  ·obtain ⟨b,o,x,rfl,hbn,hx,hc⟩:=hn a hln;have c2:=fun o => Lib.cell?_alloc_some (W:=w) o hc
   have i1:(a:Int)<n:=(by omega);go_wp2_with fail
   go_meet;exact ⟨_,rfl,by omega,by omega,rfl⟩
  ·have i1:¬ ((a:Int)<n):=(by omega);go_wp2_with fail
   go_meet;exact ⟨_,rfl,Int.emod_nonneg _ (by decide),Int.emod_lt_of_pos _ (by decide),rfl⟩
 case rest =>
  obtain ⟨x,rfl,hx0,hx1,rfl⟩:=hcut;obtain ⟨m,hm⟩:∃ m:Nat,x / 16777216 % 4=(m:Int):=⟨(x / 16777216 % 4).toNat,by omega⟩;have hm3:m<=3:=by omega
  have HM:=qqh hm;clear hm;obtain ⟨b0,hb0⟩:∃ b,(x / 268435456 % 6 == 0)=b:=⟨_,rfl⟩;obtain ⟨b1,hb1⟩:∃ b,(x / 268435456 % 6 == 1)=b:=⟨_,rfl⟩;cases b0
  ·cases b1
   ·go_wp2_with (go_at_call 43;refine (scalar_i _ _ hx0 hx1).mono ?_;rintro e2 w2 ⟨k,s,rfl,_,hs,hk2⟩;have HK2:=qqh hk2;have b0:=(HR.out.kpNil hk2).cell 0 rfl;have b1:=(HR.out.kpNil hk2).cell 1 rfl;have b2:=(HR.out.kpNil hk2).cell 2 rfl;have b3:=(HR.out.kpNil hk2).cell 3 rfl;have g0:=(HR.out.kpNil hk2).free 0;have g1:=(HR.out.kpNil hk2).free 1;have g2:=(HR.out.kpNil hk2).free 2;have g3:=(HR.out.kpNil hk2).free 3;clear hk2)
    exact HF.out _ _ _ _ hs HK2.out rfl rfl
   ·go_wp2_with fail
    clear hb0 hb1
    go_loopw [74] (fun y wr => ∃ (acc:List Quad) (xv:Value) (a':Nat),y=.int .u32 acc.length/\acc.length<=m/\a+1<=a'/\a'<=a+1+acc.length * takes d/\Hid (VL w ab d 9 acc xv a' wr)) (fun y _ => 4 - (intOf y).toNat)
    case atStart => exact ⟨[],_,_,rfl,by simp,by omega,by simp,HV0 9⟩
    case round =>
     obtain ⟨acc,xv,a',rfl,hacc,ha1,ha2,hV⟩:=hrel;obtain ⟨sa,sl,sc,rfl⟩:=IsSl.own hV.out.own;obtain rfl:=own_len hV.out.own;have hr:=hV.out.nd.cell 2 rfl;have hmul:acc.length * takes d<=m * takes d:=Nat.mul_le_mul_right _ hacc;have hmul3:m * takes d<=3 * takes d:=Nat.mul_le_mul_right _ hm3;by_cases hl:acc.length<m
     ·have hl1:((acc.length:Nat):Int)<x / 16777216 % 4:=(by have:=HM.out;omega);have hmul2:(acc.length+1) * takes d<=m * takes d:=Nat.mul_le_mul_right _ hl;have hmul4:(acc.length+1) * takes d=acc.length * takes d+takes d:=Nat.succ_mul _ _;have hle:a'+takes d<=100000:=(by omega);have hwl:IntKind.u32.wrap ((acc.length:Int)+1)=(acc.length:Int)+1:=(by show ((acc.length:Int)+1) % 4294967296=_;omega);go_wp2_with (first
       | (go_at_call 18;(with_reducible refine (IH.out a' _ (HN.out.kp hV.out.kp) hV.out.at_ hle).mono ?_);rintro e w3 ⟨v,a3,rfl,hv3,hb3,ha3,ha4,hk3⟩;obtain ⟨k0,s0,ia,il,ic,ka,kl,kc,rfl⟩:=hv3.form;have hV3:=qqh (VL.call hV.out hk3 hb3);have hP3:=qqh (VL.part (W2:=w3) hV.out hv3);clear hv3 hb3 hk3)
       | (go_at_call 17;refine (keysOf_i _ _ (by omega) (by omega)).mono ?_;rintro e6 w6 ⟨kv,rfl,hkv,hk6⟩;obtain ⟨xa,xn,xc,rfl,hxx⟩:=id hkv;have hQ:=qqh (VL.keysIn (u:=.slice xa xn xc) hV3.out hkv);have hV7:=qqh (VL.nil hV3.out (Kp.setCell (Kp.trans ((Kp.refl Nil w3).alloc _) hk6) (p:=⟨w3.heap.size,3,none⟩) (.inr (qqr _)) (.slice xa xn xc)));have hX6:=(Blk.new w3 [.int .i64 k0,.string s0,.slice ia il ic,.slice ka kl kc] 43).kpNil hk6;have x0:=hX6.cell 0 rfl;have x1:=hX6.cell 1 rfl;have x2:=hX6.cell 2 rfl;have x3:=hX6.cell 3 rfl;have xf:=hX6.free 3;have o2:=hV7.out.nd.cell 2 rfl;have hk37:Kp Nil w3 (w6.setCell ⟨w3.heap.size,3,none⟩ (.slice xa xn xc)):=Kp.setCell (Kp.trans ((Kp.refl Nil w3).alloc _) hk6) (.inr (qqr _)) _;have hP7:=qqh (ValAt.keys (ValAt.mono (PartS.mono hk37.size) (ValAt.kp hk37 (fun _ _ x => x) hP3.out)) hQ.out);clear hkv hk6 hxx hX6 hk37)
       | (at_builtin;refine wpList_appF rfl T41 _ _ rfl (w.heap.size+2) _ acc.length (quads acc) rfl (by exact own_alloc hV7.out.own _) w6.heap.size 1 _ rfl [.int .i64 k0,.string s0,.slice ia il ic,.slice xa xn xc] rfl (fun j u hu => by change ((w6.setCell _ _).alloc _).cell? ⟨w6.heap.size,j,none⟩=some u;rw [wcellN (by simp)];simpa using hu) (by intro u hu;simp at hu;rcases hu with rfl | rfl | rfl | rfl <;> rfl) (by omega) (by omega) (by have:=hV7.out.nd.lt;simp at this;simp;omega) ?_))
      intro v' w8 hown8 hg8 hfr8;obtain ⟨sa',sl',sc',rfl⟩:=IsSl.own hown8;have HV8:=qqh (VL.push (q:=(Value.int .i64 k0,Value.string s0,Value.slice ia il ic,Value.slice xa xn xc)) (VL.nil hV7.out ((Kp.refl _ _).alloc _)) (ValAt.mono (PartS.mono (by simp)) (ValAt.kp ((Kp.refl Nil _).alloc _) (fun _ _ x => x) hP7.out)) hown8 hg8 hfr8);have o8:=(VL.ndG (VL.nil hV7.out ((Kp.refl _ _).alloc _)) hg8).cell 2 rfl;have r8:=(VL.ndG (VL.nil hV7.out ((Kp.refl _ _).alloc _)) hg8).free 2;clear hown8 hg8 hfr8;go_wp2_with fail
      go_roundw
      case rel => exact ⟨_,_,a3,by simp,by simp;omega,by omega,by rw [qqa];show a3<=a+1+(acc.length+1) * takes d;omega,HV8⟩
      case measure => simp [intOf];omega
     ·have hl1:¬ (((acc.length:Nat):Int)<x / 16777216 % 4):=(by have:=HM.out;omega);have r0:=hV.out.nd.cell 0 rfl;have r1:=hV.out.nd.cell 1 rfl;have r3:=hV.out.nd.cell 3 rfl;have p0:=hV.out.res.cell 0 rfl;have p1:=hV.out.res.cell 1 rfl;have p2:=hV.out.res.cell 2 rfl;have p3:=hV.out.res.cell 3 rfl;have f0:=hV.out.res.free 0;have f1:=hV.out.res.free 1;have f2:=hV.out.res.free 2;have f3:=hV.out.res.free 3;go_wp2_with fail
      exact valueR_fin hV.out.res (hV.out.whole (by omega)) hV.out.at_ hlt (by omega) (by omega) hV.out.kp rfl rfl
  ·go_wp2_with fail
   clear hb0 hb1
   go_loopw [47] (fun y wr => ∃ (acc:List Quad) (xv:Value) (a':Nat),y=.int .u32 acc.length/\acc.length<=m/\a+1<=a'/\a'<=a+1+acc.length * takes d/\Hid (VL w ab d 8 acc xv a' wr)) (fun y _ => 4 - (intOf y).toNat)
   case atStart => exact ⟨[],_,_,rfl,by simp,by omega,by simp,HV0 8⟩
   case round =>
    obtain ⟨acc,xv,a',rfl,hacc,ha1,ha2,hV⟩:=hrel;obtain ⟨sa,sl,sc,rfl⟩:=IsSl.own hV.out.own;obtain rfl:=own_len hV.out.own;have hr:=hV.out.nd.cell 2 rfl;have hmul:acc.length * takes d<=m * takes d:=Nat.mul_le_mul_right _ hacc;have hmul3:m * takes d<=3 * takes d:=Nat.mul_le_mul_right _ hm3;by_cases hl:acc.length<m
    ·have hl1:((acc.length:Nat):Int)<x / 16777216 % 4:=(by have:=HM.out;omega);have hmul2:(acc.length+1) * takes d<=m * takes d:=Nat.mul_le_mul_right _ hl;have hmul4:(acc.length+1) * takes d=acc.length * takes d+takes d:=Nat.succ_mul _ _;have hle:a'+takes d<=100000:=(by omega);have hwl:IntKind.u32.wrap ((acc.length:Int)+1)=(acc.length:Int)+1:=(by show ((acc.length:Int)+1) % 4294967296=_;omega);go_upto_region 9 with fail
     go_region_law (first
      | (refine step_appF rfl T41 _ _ rfl (w.heap.size+2) _ acc.length (quads acc) rfl (by exact own_alloc hV3.out.own _) w3.heap.size 1 _ rfl [.int .i64 k0,.string s0,.slice ia il ic,.slice ka kl kc] rfl (fun j u hu => by rw [wcellN rfl];simpa using hu) (by intro u hu;simp at hu;rcases hu with rfl | rfl | rfl | rfl <;> rfl) (by omega) (by omega) (by have:=hV3.out.nd.lt;simp;omega) ?_;intro v' w5 hown5 hg5 hfr5;obtain ⟨sa',sl',sc',rfl⟩:=IsSl.own hown5;have o25:=(VL.ndG (VL.nil hV3.out ((Kp.refl _ _).alloc _)) hg5).cell 2 rfl;have r25:=(VL.ndG (VL.nil hV3.out ((Kp.refl _ _).alloc _)) hg5).free 2)
      | (go_simp;go_at_call 18;(with_reducible refine (IH.out a' _ ?hna ?hbl hle).mono ?_);(case hna => first | exact HN.out.kp hV.out.kp.drew | exact HN.out.kp hV.out.kp);(case hbl => first | exact hV.out.at_.drew | exact hV.out.at_);rintro e w3 ⟨v,a3,rfl,hv3,hb3,ha3,ha4,hk3⟩;obtain ⟨k0,s0,ia,il,ic,ka,kl,kc,rfl⟩:=hv3.form;have hV3:=qqh (VL.call hV.out (Kp.trans (Kp.refl _ _).drew hk3) hb3);have hP3:=qqh (VL.part (W2:=w3) hV.out hv3);have o23:=hV3.out.nd.cell 2 rfl;have o24:=(VL.nil hV3.out ((Kp.refl _ _).alloc (.cells #[.int .i64 k0,.string s0,.slice ia il ic,.slice ka kl kc] 43))).nd.cell 2 rfl;clear hv3 hb3 hk3))
     all_goals
      go_wp2_with fail
      go_roundw
      case rel => exact ⟨acc++[(Value.int .i64 k0,Value.string s0,Value.slice ia il ic,Value.slice ka kl kc)],_,a3,by simp,by simp;omega,by omega,by rw [qqa];show a3<=a+1+(acc.length+1) * takes d;omega,VL.push (VL.nil hV3.out ((Kp.refl _ _).alloc _)) (ValAt.mono (PartS.mono (by simp)) (ValAt.kp ((Kp.refl Nil w3).alloc _) (fun _ _ x => x) hP3.out)) hown5 hg5 hfr5⟩
      case measure => simp [intOf];omega
    ·have hl1:¬ (((acc.length:Nat):Int)<x / 16777216 % 4):=(by have:=HM.out;omega);have r0:=hV.out.nd.cell 0 rfl;have r1:=hV.out.nd.cell 1 rfl;have r3:=hV.out.nd.cell 3 rfl;have p0:=hV.out.res.cell 0 rfl;have p1:=hV.out.res.cell 1 rfl;have p2:=hV.out.res.cell 2 rfl;have p3:=hV.out.res.cell 3 rfl;have f0:=hV.out.res.free 0;have f1:=hV.out.res.free 1;have f2:=hV.out.res.free 2;have f3:=hV.out.res.free 3;go_wp2_with fail
     exact valueR_fin hV.out.res (hV.out.whole (by omega)) hV.out.at_ hlt (by omega) (by omega) hV.out.kp rfl rfl
theorem value_c (A:Option Addr) (n C ab:Nat):∀ (d:Nat),d<=3->∀ (a:Nat) (w:World),NumAt w ab A n->Blk w ab [.int .i64 a] 3->a+takes d<=100000->Calls Tryz.prog 18 #[.slice A n C,.pointer (some ⟨ab,0,none⟩),.int .i64 d] w (ValR ab d a w)
 | 0,_,a,w,hn,hb,ha => value_zero A n C ab a w hn hb (by omega)
 | d+1,hd,a,w,hn,hb,ha => by
  have h:=value_step A n C ab d (by omega) (value_c A n C ab d (by omega)) a w hn hb ha;rw [show ((d+1:Nat):Int)=(d:Int)+1 by omega];exact h
end Go.Proofs.YtpgmddjgcgpoeaaGreat
