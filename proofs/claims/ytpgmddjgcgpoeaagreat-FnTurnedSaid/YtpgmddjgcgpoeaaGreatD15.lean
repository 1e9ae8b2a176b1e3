/-
  A part of the proof.
-/
import Derived.Test.YtpgmddjgcgpoeaaGreatD10
import Derived.Test.YtpgmddjgcgpoeaaGreatD02
import Derived.Deep.DeepCutAuto
set_option linter.unusedVariables false
set_option linter.unusedSimpArgs false
set_option maxRecDepth 100000
set_option maxHeartbeats 8000000
namespace Go.Proofs.YtpgmddjgcgpoeaaGreat
open Go.RowKit
theorem cell_newI {w:World} {b:Nat} (hb:b=w.heap.size) (X:Array Value) (t:TypeId) (fr:Nat × Nat) (j:Nat):(w.alloc (.cells X t fr)).cell? ⟨b,j,none⟩=X[j]?:=by subst hb;exact World.cell?_alloc_mark w X t fr j
theorem runeHi_c (base:Nat) (v:Value) (l:List UInt8) (r:Nat) (w:World) (hown:OwnB w base v l) (hbase:base<=w.heap.size) (hr:128<=r) (hv:validN r) (hl:l.length<=2147483648) :
  Calls Tryz.prog 125 #[v,.int .i32 r] w fun e w' => (∃ v',e=.returned v'/\OwnB w' base v' (l++encU r))/\Kp (fun k => some k=v.ownBlock) w w':=by
 obtain ⟨sa,sl,sc,rfl⟩:=IsSl.own hown;unfold validN at hv;have HO:=qqh hown;clear hown;rcases qqg r 2048 with h1 | h1
 ·have he:encU r=[UInt8.ofNat (192+r / 64),UInt8.ofNat (128+r % 64)]:=by unfold encU encN;rw [if_neg (by omega),if_pos h1];rfl
  rw [he];obtain ⟨x0,h0⟩:∃ x,UInt8.ofNat (192+r / 64)=x:=⟨_,rfl⟩;have t0:x0.toNat=192+r / 64:=by rw [<- h0,UInt8.toNat_ofNat'];omega
  rw [h0];have T0:=qqh t0;obtain ⟨x1,h1⟩:∃ x,UInt8.ofNat (128+r % 64)=x:=⟨_,rfl⟩;have t1:x1.toNat=128+r % 64:=by rw [<- h1,UInt8.toNat_ofNat'];omega
  rw [h1];have T1:=qqh t1;have HV:=qqh hv;clear hv;clear he h0 t0 h1 t1;go_enter Tryz.func125,Tryz.ntmps125;go_wp2_with (at_builtin;refine wpList_app_bytes rfl _ _ rfl base _ l [x0,x1] rfl (by exact own_alloc HO.out _) w.heap.size 0 _ rfl ?c1 ?c2 ?c3 ?_)
  case c1 =>
   intro j hj;rw [cell_newI (by simp)]
   match j,hj with
   | 0,_ => simp [T0.out]
   | 1,_ => simp [T1.out]
  case c2 => simp;omega
  case c3 => simp;omega
  intro v' w1 hown1 hg1;go_wp2_with fail
  go_ret;exact ⟨⟨_,rfl,hown1⟩,Kp.then ((Kp.refl (fun k => some k=(Value.slice sa sl sc).ownBlock) w).alloc _) (Kp.ofGrown hg1) (fun i hi => .inl hi)⟩
 rcases qqg r 65536 with h2 | h2
 ·rcases qqg r 55296 with h3 | h3
  ·have he:encU r=[UInt8.ofNat (224+r / 4096),UInt8.ofNat (128+r / 64 % 64),UInt8.ofNat (128+r % 64)]:=(by unfold encU encN;rw [if_neg (by omega),if_neg (by omega),if_pos h2];rfl);rw [he];obtain ⟨x0,h0⟩:∃ x,UInt8.ofNat (224+r / 4096)=x:=⟨_,rfl⟩;have t0:x0.toNat=224+r / 4096:=(by rw [<- h0,UInt8.toNat_ofNat'];omega);rw [h0];have T0:=qqh t0;obtain ⟨x1,h1⟩:∃ x,UInt8.ofNat (128+r / 64 % 64)=x:=⟨_,rfl⟩;have t1:x1.toNat=128+r / 64 % 64:=(by rw [<- h1,UInt8.toNat_ofNat'];omega);rw [h1];have T1:=qqh t1;obtain ⟨x2,h2⟩:∃ x,UInt8.ofNat (128+r % 64)=x:=⟨_,rfl⟩;have t2:x2.toNat=128+r % 64:=(by rw [<- h2,UInt8.toNat_ofNat'];omega);rw [h2];have T2:=qqh t2;have HV:=qqh hv;clear hv;have hb:(r:Int)<=65535:=(by omega);have e0:decide ((r:Int)<=2047)=false:=qqf (by omega);have e1:decide ((r:Int)<55296)=true:=qqt (by omega);clear h1 h2 h3;clear he h0 t0 h1 t1 h2 t2;go_enter Tryz.func125,Tryz.ntmps125;go_wp2_with (at_builtin;refine wpList_app_bytes rfl _ _ rfl base _ l [x0,x1,x2] rfl (by exact own_alloc HO.out _) w.heap.size 0 _ rfl ?c1 ?c2 ?c3 ?_)
   case c1 =>
    intro j hj;rw [cell_newI (by simp)]
    match j,hj with
    | 0,_ => simp [T0.out]
    | 1,_ => simp [T1.out]
    | 2,_ => simp [T2.out]
   case c2 => simp;omega
   case c3 => simp;omega
   intro v' w1 hown1 hg1;go_wp2_with fail
   go_ret;exact ⟨⟨_,rfl,hown1⟩,Kp.then ((Kp.refl (fun k => some k=(Value.slice sa sl sc).ownBlock) w).alloc _) (Kp.ofGrown hg1) (fun i hi => .inl hi)⟩
  ·have he:encU r=[UInt8.ofNat (224+r / 4096),UInt8.ofNat (128+r / 64 % 64),UInt8.ofNat (128+r % 64)]:=(by unfold encU encN;rw [if_neg (by omega),if_neg (by omega),if_pos h2];rfl);rw [he];obtain ⟨x0,h0⟩:∃ x,UInt8.ofNat (224+r / 4096)=x:=⟨_,rfl⟩;have t0:x0.toNat=224+r / 4096:=(by rw [<- h0,UInt8.toNat_ofNat'];omega);rw [h0];have T0:=qqh t0;obtain ⟨x1,h1⟩:∃ x,UInt8.ofNat (128+r / 64 % 64)=x:=⟨_,rfl⟩;have t1:x1.toNat=128+r / 64 % 64:=(by rw [<- h1,UInt8.toNat_ofNat'];omega);rw [h1];have T1:=qqh t1;obtain ⟨x2,h2⟩:∃ x,UInt8.ofNat (128+r % 64)=x:=⟨_,rfl⟩;have t2:x2.toNat=128+r % 64:=(by rw [<- h2,UInt8.toNat_ofNat'];omega);rw [h2];have T2:=qqh t2;have HV:=qqh hv;clear hv;have h4:57344<=r:=(by have:=HV.out;omega);have hb:(r:Int)<=65535:=(by omega);have e0:decide ((r:Int)<=2047)=false:=qqf (by omega);have e1:decide ((r:Int)<55296)=false:=qqf (by omega);have e2:decide (57343<(r:Int))=true:=qqt (by omega);clear h3 h1 h2 h4;clear he h0 t0 h1 t1 h2 t2;go_enter Tryz.func125,Tryz.ntmps125;go_wp2_with (at_builtin;refine wpList_app_bytes rfl _ _ rfl base _ l [x0,x1,x2] rfl (by exact own_alloc HO.out _) w.heap.size 0 _ rfl ?c1 ?c2 ?c3 ?_)
   case c1 =>
    intro j hj;rw [cell_newI (by simp)]
    match j,hj with
    | 0,_ => simp [T0.out]
    | 1,_ => simp [T1.out]
    | 2,_ => simp [T2.out]
   case c2 => simp;omega
   case c3 => simp;omega
   intro v' w1 hown1 hg1;go_wp2_with fail
   go_ret;exact ⟨⟨_,rfl,hown1⟩,Kp.then ((Kp.refl (fun k => some k=(Value.slice sa sl sc).ownBlock) w).alloc _) (Kp.ofGrown hg1) (fun i hi => .inl hi)⟩
 ·have he:encU r=[UInt8.ofNat (240+r / 262144),UInt8.ofNat (128+r / 4096 % 64),UInt8.ofNat (128+r / 64 % 64),UInt8.ofNat (128+r % 64)]:=by unfold encU encN;rw [if_neg (by omega),if_neg (by omega),if_neg (by omega)];rfl
  rw [he];obtain ⟨x0,h0⟩:∃ x,UInt8.ofNat (240+r / 262144)=x:=⟨_,rfl⟩;have t0:x0.toNat=240+r / 262144:=by rw [<- h0,UInt8.toNat_ofNat'];omega
  rw [h0];have T0:=qqh t0;obtain ⟨x1,h1⟩:∃ x,UInt8.ofNat (128+r / 4096 % 64)=x:=⟨_,rfl⟩;have t1:x1.toNat=128+r / 4096 % 64:=by rw [<- h1,UInt8.toNat_ofNat'];omega
  rw [h1];have T1:=qqh t1;obtain ⟨x2,h2⟩:∃ x,UInt8.ofNat (128+r / 64 % 64)=x:=⟨_,rfl⟩;have t2:x2.toNat=128+r / 64 % 64:=by rw [<- h2,UInt8.toNat_ofNat'];omega
  rw [h2];have T2:=qqh t2;obtain ⟨x3,h3⟩:∃ x,UInt8.ofNat (128+r % 64)=x:=⟨_,rfl⟩;have t3:x3.toNat=128+r % 64:=by rw [<- h3,UInt8.toNat_ofNat'];omega
  rw [h3];have T3:=qqh t3;have HV:=qqh hv;clear hv;have h4:r<=1114111:=by have:=HV.out;omega
  have hb:(r:Int)<=1114111:=by omega
  have e0:decide ((r:Int)<=2047)=false:=qqf (by omega);have e1:decide ((r:Int)<55296)=false:=qqf (by omega);have e2:decide (57343<(r:Int))=true:=qqt (by omega);have e3:decide ((r:Int)<=65535)=false:=qqf (by omega);have e4:decide (65535<(r:Int))=true:=qqt (by omega);clear h1 h2 h4;clear he h0 t0 h1 t1 h2 t2 h3 t3;go_enter Tryz.func125,Tryz.ntmps125;go_wp2_with (at_builtin;refine wpList_app_bytes rfl _ _ rfl base _ l [x0,x1,x2,x3] rfl (by exact own_alloc HO.out _) w.heap.size 0 _ rfl ?c1 ?c2 ?c3 ?_)
  case c1 =>
   intro j hj;rw [cell_newI (by simp)]
   match j,hj with
   | 0,_ => simp [T0.out]
   | 1,_ => simp [T1.out]
   | 2,_ => simp [T2.out]
   | 3,_ => simp [T3.out]
  case c2 => simp;omega
  case c3 => simp;omega
  intro v' w1 hown1 hg1;go_wp2_with fail
  go_ret;exact ⟨⟨_,rfl,hown1⟩,Kp.then ((Kp.refl (fun k => some k=(Value.slice sa sl sc).ownBlock) w).alloc _) (Kp.ofGrown hg1) (fun i hi => .inl hi)⟩
theorem rune_c (base:Nat) (v:Value) (l:List UInt8) (r:Nat) (w:World) (hown:OwnB w base v l) (hbase:base<=w.heap.size) (hv:validN r) (hl:l.length<=2147483648) :
  Calls Tryz.prog 124 #[v,.int .i32 r] w fun e w' => (∃ v',e=.returned v'/\OwnB w' base v' (l++encU r))/\Kp (fun k => some k=v.ownBlock) w w':=by
 obtain ⟨sa,sl,sc,rfl⟩:=IsSl.own hown;have HO:=qqh hown;have hv':=hv;unfold validN at hv';have HV:=qqh hv;clear hown hv;rcases qqg r 128 with h1 | h1
 ·have he:encU r=[UInt8.ofNat r]:=by unfold encU encN;rw [if_pos h1];rfl
  rw [he];obtain ⟨x0,h0⟩:∃ x,UInt8.ofNat r=x:=⟨_,rfl⟩;have t0:x0.toNat=r:=by rw [<- h0,UInt8.toNat_ofNat'];omega
  rw [h0];have T0:=qqh t0;clear he h0 t0;go_enter Tryz.func124,Tryz.ntmps124;go_wp2_with (at_builtin;refine wpList_app_bytes rfl _ _ rfl base _ l [x0] rfl (by exact own_alloc HO.out _) w.heap.size 0 _ rfl ?c1 ?c2 ?c3 ?_)
  case c1 =>
   intro j hj;rw [cell_newI (by simp)]
   match j,hj with
   | 0,_ => simp [T0.out]
  case c2 => simp;omega
  case c3 => simp;omega
  intro v' w1 hown1 hg1;go_wp2_with fail
  go_ret;exact ⟨⟨_,rfl,hown1⟩,Kp.then ((Kp.refl (fun k => some k=(Value.slice sa sl sc).ownBlock) w).alloc _) (Kp.ofGrown hg1) (fun i hi => .inl hi)⟩
 ·go_enter Tryz.func124,Tryz.ntmps124;go_wp2_with fail
  refine (runeHi_c base _ l r _ HO.out hbase h1 HV.out hl).mono ?_;rintro e w1 ⟨⟨v',rfl,hown1⟩,hk1⟩;obtain ⟨sa',sl',sc',rfl⟩:=IsSl.own hown1;go_wp2_with fail
  go_ret;exact ⟨⟨_,rfl,hown1⟩,hk1⟩
end Go.Proofs.YtpgmddjgcgpoeaaGreat
