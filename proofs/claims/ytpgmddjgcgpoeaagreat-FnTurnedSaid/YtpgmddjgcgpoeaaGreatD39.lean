/-
  A part of the proof.
-/
import Derived.Test.YtpgmddjgcgpoeaaGreatD21
import Derived.Test.YtpgmddjgcgpoeaaGreatD28
import Derived.Deep.DeepCutAuto
import Derived.Deep.RegionLaw
import Derived.Deep.CutBlock
import Derived.Test.YtpgmddjgcgpoeaaGreatD07
import Derived.Deep.RegionWith
import Derived.Deep.RegionHeld3
set_option linter.unusedVariables false
set_option linter.unusedSimpArgs false
set_option maxRecDepth 100000
set_option maxHeartbeats 8000000
namespace Go.Proofs.YtpgmddjgcgpoeaaGreat
open Go.RowKit
def ReadPost (w:World) (r:R (List Ex)) (e:Ending) (w':World):Prop :=
 Kp Nil w w'/\match r with
 | .good es _ => ∃ v xs,e=.returned (.tuple #[v,.int .i64 0])/\w'.ownsRow (w.heap.size+1) 45 6 v es.length xs/\RepX w' (w.heap.size+1) (fun b => v.ownBlock ≠ some b) es xs
 | .bad => e=.returned (.tuple #[.slice none 0 0,.int .i64 1])
 | .opn => e=.returned (.tuple #[.slice none 0 0,.int .i64 2])
def HeadOut (w0 wx:World) (r:R (Option Ex)) (v:Value) (n n':Nat) (xs:List Value) (p st:Nat) (es:List Ex):Prop :=
 match r with
 | .good o k1 => st=0/\p=k1/\n'=n+o.toList.length/\RepX wx (w0.heap.size+1) (fun b => v.ownBlock ≠ some b) (es++o.toList) xs
 | .bad => st=1
 | .opn => st=2
theorem has_93 (D:Doc) (k:Nat):hasB D k [93]=decide (D.c k=93):=by
 unfold hasB;by_cases h:D.c k=93
 ·have:=Doc.in_of (D:=D) (k:=k) (by omega);simp [Doc.sub_succ,Doc.sub_zero,h];omega
 ·simp only [List.length_cons,List.length_nil,Nat.zero_add,Doc.sub_succ,Doc.sub_zero];simp [h];intro _ h';have:=congrArg UInt8.toNat h';rw [Doc.toNat_ofNat] at this;exact h this
theorem has_9393 (D:Doc) (k:Nat):hasB D k [93,93]=decide (D.c k=93/\D.c (k+1)=93):=by
 rcases qqg D.n k with hk | hk
 ·rw [hasB_past D k _ (by simp) (by omega),D.out k (by omega)];simp
 ·rw [hasB_all D k _ (by simp) hk];simp [hasAll,Bool.decide_and]
  rfl
theorem has_m (D:Doc) (bp:Nat) (A:Option Addr) (C:Nat) (at_ st m:Nat) (S:ByteArray) (hS:(⟨(List.replicate m (93:UInt8)).toArray⟩:ByteArray)=S) (hm:m=1\/m=2) (w:World) (hp:PS D bp A C w at_ st) (hat:at_<=1500000000) :
  Calls Tryz.prog 22 #[.pointer (some ⟨bp,0,none⟩),.string S] w fun e w' => e=.returned (.bool (decide (D.c at_=93/\(m=2->D.c (at_+1)=93))))/\∃ nq,w'=w.drewN nq:=by
 subst hS;refine (has_c D bp A C at_ st (List.replicate m 93) w hp hat (by simp;omega) (by simp;omega)).mono ?_;rintro e w' ⟨rfl,h⟩;refine ⟨?_,h⟩;rcases hm with rfl | rfl
 ·rw [show List.replicate 1 (93:UInt8)=[93] from rfl,has_93];simp
 ·rw [show List.replicate 2 (93:UInt8)=[93,93] from rfl,has_9393];simp
def HKB (D:Doc) (m:Nat):R (List (List UInt8))->Bool | .good _ k2 => !decide (D.c k2=93/\(m=2->D.c (k2+1)=93)) | _ => false
def KV (D:Doc):R (List (List UInt8))->Bool | .good _ k2 => (D.c k2:Int) != 61 | _ => false
def kvR (ks:List (List UInt8)):R Tree->R (Option Ex) | .good t k3 => .good (some ⟨0,ks,t⟩) k3 | .bad => .bad | .opn => .opn
section
variable (D:Doc) (A:Option Addr) (C:Nat) (w:World) (v:Value) (n:Nat) (xs:List Value) (es:List Ex) (B:Nat)
def TPre (m:Nat) (kv:Value) (wx:World) (rh:R (Option Ex)) (p st:Nat):Prop :=
 p<=D.n/\EB D A C w v n xs es B [.int .i64 (m:Nat),kv,.int .i64 0,.string ⟨#[]⟩,.slice none 0 0,.slice none 0 0] wx p st /\
 match rh with
 | .good o k1 => st=0/\k1=p+m/\∃ ks,o=some ⟨m,ks,.zero⟩/\EK D A C w v n xs es B [.int .i64 (m:Nat),kv,.int .i64 0,.string ⟨#[]⟩,.slice none 0 0,.slice none 0 0] kv ks wx p 0
 | .bad => st=1
 | .opn => st=2
def VPre (kv:Value) (wx:World) (k0:Nat) (rh:R (Option Ex)) (p st:Nat):Prop :=
 p<=D.n/\EB D A C w v n xs es B [.int .i64 0,kv,.int .i64 0,.string ⟨#[]⟩,.slice none 0 0,.slice none 0 0] wx p st /\
 ((st=0/\∃ ks,EK D A C w v n xs es B [.int .i64 0,kv,.int .i64 0,.string ⟨#[]⟩,.slice none 0 0,.slice none 0 0] kv ks wx p 0/\keyP D k0=.good ks p/\D.c p=61)\/(st=1/\rh=.bad)\/(st=2/\rh=.opn))
def UPre (kv:Value) (wx:World) (k0:Nat) (rh:R (Option Ex)) (k3 st:Nat):Prop :=
 EB D A C w v n xs es B [.int .i64 0,kv,.int .i64 0,.string ⟨#[]⟩,.slice none 0 0,.slice none 0 0] wx k3 st /\
 ((st=0/\∃ ks p,EK D A C w v n xs es B [.int .i64 0,kv,.int .i64 0,.string ⟨#[]⟩,.slice none 0 0,.slice none 0 0] kv ks wx k3 0/\keyP D k0=.good ks p/\D.c p=61/\wsEnd D (p+1)=k3/\k3<=D.n)\/(st=1/\rh=.bad)\/(st=2/\rh=.opn))
def WPre (kv vk vl vi vj:Value) (wx:World) (rh:R (Option Ex)) (p st:Nat):Prop :=
 EB D A C w v n xs es B [.int .i64 0,kv,vk,vl,vi,vj] wx p st /\
 match rh with
 | .good o k1 => st=0/\k1=p/\∃ ks t,o=some ⟨0,ks,t⟩/\EK D A C w v n xs es B [.int .i64 0,kv,vk,vl,vi,vj] kv ks wx p 0/\RepT wx (w.heap.size+1) (fun b => v.ownBlock ≠ some b) t [vk,vl,vi,vj]
 | .bad => st=1
 | .opn => st=2
end
section
variable {D:Doc} {A:Option Addr} {C:Nat} {w:World} {v:Value} {n:Nat} {xs:List Value} {es:List Ex} {B:Nat}
theorem TPre.done {m:Nat} {kv:Value} {wx:World} {rh:R (Option Ex)} {p st:Nat} (h:TPre D A C w v n xs es B m kv wx rh p st) (k:Int) (e:k=((p+m:Nat):Int)) (o:Obj) {v':Value} {w':World}
  (hg:((wx.setCell ⟨w.heap.size,1,none⟩ (.int .i64 k)).alloc o).grownBy w' v.ownBlock) (ho:w'.ownsRow (w.heap.size+1) 45 6 v' (n+1) (xs++[.int .i64 (m:Nat),kv,.int .i64 0,.string ⟨#[]⟩,.slice none 0 0,.slice none 0 0]))
  (hnew:Fresh ((wx.setCell ⟨w.heap.size,1,none⟩ (.int .i64 k)).alloc o) v v'):HeadOut w w' rh v' n (n+1) (xs++[.int .i64 (m:Nat),kv,.int .i64 0,.string ⟨#[]⟩,.slice none 0 0,.slice none 0 0]) (p+m) st es:=by
 obtain ⟨_,_,h3⟩:=h;cases rh with
 | good o' k1 =>
  obtain ⟨rfl,rfl,ks,rfl,hk⟩:=h3;exact ⟨rfl,rfl,rfl,EK.grown (e:=⟨m,ks,.zero⟩) (EK.setAt hk k (p+m) e) rfl (RepT.leafV _ _ _ 0 []) o hg ho hnew⟩
 | bad => exact h3
 | opn => exact h3
theorem UPre.of {kv:Value} {wx w7:World} {k0 k3:Nat} {rh:R (Option Ex)} {p st:Nat} (h:VPre D A C w v n xs es B kv wx k0 rh p st) (k:Int) (e:k=((p+1:Nat):Int)) (hk3:wsEnd D (p+1)=k3)
  (hpx:PS D w.heap.size A C w7 k3 st) (hkx:Kp (Only w.heap.size) (wx.setCell ⟨w.heap.size,1,none⟩ (.int .i64 k)) w7):UPre D A C w v n xs es B kv w7 k0 rh k3 st:=by
 obtain ⟨_,h2,h3⟩:=h;refine ⟨EB.call (EB.setAt h2 k (p+1) e) hpx hkx,?_⟩;rcases h3 with ⟨rfl,ks,hk,h4,h5⟩ | h | h
 ·have:=Doc.in_of (D:=D) (k:=p) (by omega);exact .inl ⟨rfl,ks,p,EK.call (EK.setAt hk k (p+1) e) hpx hkx,h4,h5,hk3,by have:=wsEnd_le D (p+1);omega⟩
 ·exact .inr (.inl h)
 ·exact .inr (.inr h)
theorem WPre.dead {kv:Value} {wx:World} {rh:R (Option Ex)} {p st:Nat} (h:EB D A C w v n xs es B [.int .i64 0,kv,.int .i64 0,.string ⟨#[]⟩,.slice none 0 0,.slice none 0 0] wx p st) (hr:st=1/\rh=.bad\/st=2/\rh=.opn) :
  WPre D A C w v n xs es B kv (.int .i64 0) (.string ⟨#[]⟩) (.slice none 0 0) (.slice none 0 0) wx rh p st:=by
 refine ⟨h,?_⟩;rcases hr with ⟨rfl,rfl⟩ | ⟨rfl,rfl⟩ <;> rfl
theorem WPre.value {kv:Value} {w6 w7:World} {vk:Int} {vl:ByteArray} {vi vj:Value} {rh:R (Option Ex)} {ks:List (List UInt8)} {rv:R Tree}
  (h:EK D A C w v n xs es B [.int .i64 0,kv,.int .i64 0,.string ⟨#[]⟩,.slice none 0 0,.slice none 0 0] kv ks w7 (rv.pos D) (rv.st 0))
  (hval:ValOk rv w7 w6.heap.size [.int .i64 vk,.string vl,vi,vj]) (hB:B<w6.heap.size) (hvn:∀ g,v.ownBlock=some g->g<w6.heap.size) (hw:w.heap.size+1<=w6.heap.size)
  (hres:rh=kvR ks rv) :
  WPre D A C w v n xs es B kv (.int .i64 vk) (.string vl) vi vj ((((w7.setCell ⟨B,2,none⟩ (.int .i64 vk)).setCell ⟨B,3,none⟩ (.string vl)).setCell ⟨B,4,none⟩ vi).setCell ⟨B,5,none⟩ vj) rh (rv.pos D) (rv.st 0):=by
 have h9:EK D A C w v n xs es B [.int .i64 0,kv,.int .i64 vk,.string vl,vi,vj] kv ks ((((w7.setCell ⟨B,2,none⟩ (.int .i64 vk)).setCell ⟨B,3,none⟩ (.string vl)).setCell ⟨B,4,none⟩ vi).setCell ⟨B,5,none⟩ vj) (rv.pos D) (rv.st 0) :=
  EK.putE (EK.putE (EK.putE (EK.putE h 2 _ rfl) 3 _ rfl) 4 _ rfl) 5 _ rfl
 subst hres;refine ⟨h9.eb,?_⟩;cases rv with
 | good t p =>
  refine ⟨rfl,rfl,ks,t,rfl,h9,?_⟩;have h:RepT w7 w6.heap.size (fun _ => True) t [.int .i64 vk,.string vl,vi,vj]:=hval;refine RepT.leave (w:=w7) (base:=w6.heap.size) (S:=fun _ => True) (fun b _ hb => ⟨fun e => ?_,fun _ => ?_⟩) hw t _ h
  ·have:=hvn _ e;omega
  ·rw [heap_put (by omega),heap_put (by omega),heap_put (by omega),heap_put (by omega)]
 | bad => rfl
 | opn => rfl
theorem WPre.done {kv vk vl vi vj:Value} {wx:World} {rh:R (Option Ex)} {p st:Nat} (h:WPre D A C w v n xs es B kv vk vl vi vj wx rh p st) (o:Obj) {v':Value} {w':World}
  (hg:(wx.alloc o).grownBy w' v.ownBlock) (ho:w'.ownsRow (w.heap.size+1) 45 6 v' (n+1) (xs++[.int .i64 0,kv,vk,vl,vi,vj]))
  (hnew:Fresh (wx.alloc o) v v'):HeadOut w w' rh v' n (n+1) (xs++[.int .i64 0,kv,vk,vl,vi,vj]) p st es:=by
 obtain ⟨_,h3⟩:=h;cases rh with
 | good o' k1 =>
  obtain ⟨rfl,rfl,ks,t,rfl,hk,ht⟩:=h3;exact ⟨rfl,rfl,rfl,EK.grown (e:=⟨0,ks,t⟩) hk rfl ht o hg ho hnew⟩
 | bad => exact h3
 | opn => exact h3
end
def mk9 (s0 s4 s5 s6 s7 s8 s9 s41 s63 s114 s130 s172:Value) (F:Nat->Value):Act:=⟨#[s0,F 1,F 2,F 3,s4,s5,s6,s7,s8,s9,F 10,F 11,F 12,F 13,F 14,F 15,F 16,F 17,F 18,F 19,F 20,F 21,F 22,F 23,F 24,F 25,F 26,F 27,F 28,F 29,F 30,F 31,F 32,F 33,F 34,F 35,F 36,F 37,F 38,F 39,F 40,s41,F 42,F 43,F 44,F 45,F 46,F 47,F 48,F 49,F 50,F 51,F 52,F 53,F 54,F 55,F 56,F 57,F 58,F 59,F 60,F 61,F 62,s63,F 64,F 65,F 66,F 67,F 68,F 69,F 70,F 71,F 72,F 73,F 74,F 75,F 76,F 77,F 78,F 79,F 80,F 81,F 82,F 83,F 84,F 85,F 86,F 87,F 88,F 89,F 90,F 91,F 92,F 93,F 94,F 95,F 96,F 97,F 98,F 99,F 100,F 101,F 102,F 103,F 104,F 105,F 106,F 107,F 108,F 109,F 110,F 111,F 112,F 113,s114,F 115,F 116,F 117,F 118,F 119,F 120,F 121,F 122,F 123,F 124,F 125,F 126,F 127,F 128,F 129,s130,F 131,F 132,F 133,F 134,F 135,F 136,F 137,F 138,F 139,F 140,F 141,F 142,F 143,F 144,F 145,F 146,F 147,F 148,F 149,F 150,F 151,F 152,F 153,F 154,F 155,F 156,F 157,F 158,F 159,F 160,F 161,F 162,F 163,F 164,F 165,F 166,F 167,F 168,F 169,F 170,F 171,s172,F 173,F 174,F 175,F 176,F 177,F 178,F 179,F 180,F 181,F 182,F 183,F 184,F 185,F 186,F 187,F 188],[]⟩
theorem mk9_eq (s0 s4 s5 s6 s7 s8 s9 s41 s63 s114 s130 s172:Value) (F:Nat->Value):mk9 s0 s4 s5 s6 s7 s8 s9 s41 s63 s114 s130 s172 F=⟨#[s0,F 1,F 2,F 3,s4,s5,s6,s7,s8,s9,F 10,F 11,F 12,F 13,F 14,F 15,F 16,F 17,F 18,F 19,F 20,F 21,F 22,F 23,F 24,F 25,F 26,F 27,F 28,F 29,F 30,F 31,F 32,F 33,F 34,F 35,F 36,F 37,F 38,F 39,F 40,s41,F 42,F 43,F 44,F 45,F 46,F 47,F 48,F 49,F 50,F 51,F 52,F 53,F 54,F 55,F 56,F 57,F 58,F 59,F 60,F 61,F 62,s63,F 64,F 65,F 66,F 67,F 68,F 69,F 70,F 71,F 72,F 73,F 74,F 75,F 76,F 77,F 78,F 79,F 80,F 81,F 82,F 83,F 84,F 85,F 86,F 87,F 88,F 89,F 90,F 91,F 92,F 93,F 94,F 95,F 96,F 97,F 98,F 99,F 100,F 101,F 102,F 103,F 104,F 105,F 106,F 107,F 108,F 109,F 110,F 111,F 112,F 113,s114,F 115,F 116,F 117,F 118,F 119,F 120,F 121,F 122,F 123,F 124,F 125,F 126,F 127,F 128,F 129,s130,F 131,F 132,F 133,F 134,F 135,F 136,F 137,F 138,F 139,F 140,F 141,F 142,F 143,F 144,F 145,F 146,F 147,F 148,F 149,F 150,F 151,F 152,F 153,F 154,F 155,F 156,F 157,F 158,F 159,F 160,F 161,F 162,F 163,F 164,F 165,F 166,F 167,F 168,F 169,F 170,F 171,s172,F 173,F 174,F 175,F 176,F 177,F 178,F 179,F 180,F 181,F 182,F 183,F 184,F 185,F 186,F 187,F 188],[]⟩:=rfl
theorem mk9_of (L:List Value) (h:L.length=189):(⟨L.toArray,[]⟩:Act)=mk9 (L.getD 0 undef) (L.getD 4 undef) (L.getD 5 undef) (L.getD 6 undef) (L.getD 7 undef) (L.getD 8 undef) (L.getD 9 undef) (L.getD 41 undef) (L.getD 63 undef) (L.getD 114 undef) (L.getD 130 undef) (L.getD 172 undef) (fun i => L.getD i undef):=(frame_range L 189 h).trans (by rfl)
theorem read_c (D:Doc) (A:Option Addr) (C:Nat) (w:World) (hd:DocAt D A C w) (hA:∀ a,A=some a->a.block<w.heap.size) :
  Calls Tryz.prog 9 #[.slice A D.n C] w (ReadPost w (docRun D 0 [])):=by
 have hs:=D.small;have hps0:PS D w.heap.size A C (w.alloc (.cells #[.slice A D.n C,.int .i64 0,.int .i64 0] 56)) 0 0 :=
  ⟨Blk.new w [.slice A D.n C,.int .i64 0,.int .i64 0] 56,hd.kp (S:=Nil) ((Kp.refl _ _).alloc _) (fun _ _ h => h),fun a ha => Nat.ne_of_lt (hA a ha)⟩
 have hE0:EW D A C w (.slice (some ⟨w.heap.size+1,0,none⟩) 0 0) 0 [] ((w.alloc (.cells #[.slice A D.n C,.int .i64 0,.int .i64 0] 56)).alloc (.cells #[] 45)) 0 0:=by
  refine ⟨hps0.alloc _,((Kp.refl _ _).alloc _).alloc _,?_,hA⟩;exact own_made (by simp) (by simp)
 have hE0:=qqh hE0;obtain ⟨rr,hrr⟩:∃ r,docRun D 0 []=r:=⟨_,rfl⟩;rw [hrr];have HRR:=qqh hrr;have HA:=qqh hA;clear hd hA hps0 hrr;go_enter Tryz.func9,Tryz.ntmps9;go_wp2_with fail
 refine wp_loop (fun a wr => ∃ (v z6 z7 z8 z9 z41 z63 z114 z130 z172:Value) (F:Nat->Value),a=mk9 (.slice A D.n C) (.pointer (some ⟨w.heap.size,0,none⟩)) v z6 z7 z8 z9 z41 z63 z114 z130 z172 F/\(∃ (k:Nat) (n:Nat) (xs:List Value) (es:List Ex),k<=D.n/\n<=k/\es.length=n/\Hid (EW D A C w v n xs wr k 0)/\Hid (RepX wr (w.heap.size+1) (fun b => v.ownBlock ≠ some b) es xs)/\Hid (rr=docRun D k es))) (fun a wr => left D w.heap.size wr) ?atStart1 ?round1
 case atStart1 => exact ⟨_,_,_,_,_,_,_,_,_,_,_,mk9_of _ rfl,0,0,[],[],Nat.zero_le _,qqr _,rfl,hE0.out,rfl,HRR.out.symm⟩
 case round1 =>
  rintro _ wr ⟨_,_,_,_,_,_,_,_,_,_,F,rfl,hrel⟩;refine wp_frame (mk9_eq ..) ?_;obtain ⟨k,n,xs,es,hk,hn,hes,hE,hR,hrun⟩:=hrel;have HES:=qqh hes;clear hes;obtain ⟨sa,sl,sc,rfl⟩:=IsSl.own hE.out.own;have g0:=hE.out.ps.c0;have g1:=hE.out.ps.c1;have g2:=hE.out.ps.c2;rcases qqg k D.n with hlt | hge
  ·have hlt':(k:Int)<D.n:=(by omega);go_wp2_with fail
   go_quiet (fail)
   go_wp2_with fail
   have hb1:=wsEnd_ge D k;have hb2:=wsEnd_le D k;obtain ⟨k0,hk0⟩:∃ t,wsEnd D k=t:=⟨_,rfl⟩;rw [hk0] at hb1 hb2;have HK0:=qqh hk0;clear hk0;refine (blanks_c D w.heap.size A C k 0 _ (by exact hE.out.ps.drewN _) (by omega)).mono ?_;rintro e w1 ⟨rfl,hp1,hk1⟩;rw [HK0.out] at hp1;have hE1:=qqh (EW.call (hE.out.drewN _) hp1 hk1);have hR1:=qqh (RepX.call (w:=wr.drewN nq) (RepX.same hR.out rfl) hk1);clear hp1 hk1;go_wp2_with fail
   refine (peek_c D w.heap.size A C k0 0 0 _ (by exact hE1.out.ps) (by omega) (by omega) (by omega)).mono ?_;rintro e w2 ⟨rfl,nq2,rfl⟩;simp only [Int.toNat_zero,Nat.add_zero]
   go_upto_block 2 with fail
   refine wp_at (fun W => Hid (EW D A C w (.slice sa sl sc) n xs W k0 0)/\Hid (RepX W (w.heap.size+1) (fun b => (Value.slice sa sl sc).ownBlock ≠ some b) es xs)) ⟨hE1.out.drewN _,RepX.same hR1.out rfl⟩ ?_;rintro W ⟨hEW,hRW⟩;clear hE1 hR1 g0 g1 g2;have y0:=hEW.out.ps.c0;have y1:=hEW.out.ps.c1;have y2:=hEW.out.ps.c2;have yf:=hEW.out.ps.f 1;obtain ⟨rh,hrh⟩:∃ t,headP D k0=t:=⟨_,rfl⟩;have HRH:=qqh hrh;clear hrh;have hge0:Hid (∀ o k1,rh=.good o k1->k0<=k1/\k1<=D.n):=fun o k1 h => headP_ge (by omega) (HRH.out.trans h)
   refine wp_cut (fun a wx => ∃ (v z6 z7 z8 z9 z41 z63 z114 z130 z172:Value) (F:Nat->Value),a=mk9 (.slice A D.n C) (.pointer (some ⟨w.heap.size,0,none⟩)) v z6 z7 z8 z9 z41 z63 z114 z130 z172 F/\(∃ (sa':Option Addr) (sl' sc' n' p st:Nat) (xs':List Value),v=.slice sa' sl' sc'/\Hid (EW D A C w (.slice sa' sl' sc') n' xs' wx p st)/\Hid (HeadOut w wx rh (.slice sa' sl' sc') n n' xs' p st es))) ?rest2 ?first2
   case first2 =>
    intro _ _ _ _;have hlW:=hEW.out.ps.blk.lt;by_cases h91:D.c k0=91
    ·have e91:((D.c k0:Int) == 91)=true:=(by rw [beq_iff_eq];omega);have H91:=qqh h91;have hin:=Doc.in_of (D:=D) (k:=k0) (by omega);have hzW:(W.setCell ⟨w.heap.size,1,none⟩ (.int .i64 ((k0:Int)+1))).heap.size=W.heap.size:=(by simp);have h2:=qqh (EB.start (B:=W.heap.size) (EW.setAt hEW.out ((k0:Int)+1) (k0+1) (by omega)) (RepX.call hRW.out ((Kp.refl _ _).putOnly _)) [.int .i64 1,.slice none 0 0,.int .i64 0,.string ⟨#[]⟩,.slice none 0 0,.slice none 0 0] hzW.symm);clear h91 hzW;obtain ⟨B,hB⟩:∃ B,W.heap.size=B:=⟨_,rfl⟩;have hBn:Hid ((Value.slice sa sl sc).ownBlock ≠ some B/\∀ g,(Value.slice sa sl sc).ownBlock=some g->g<B):=⟨h2.out.ne ∘ fun e => by rw [hB];exact e,fun g hg => by have:=(hEW.out.own.lt g hg).2;omega⟩;have HB:=qqh hB;clear hB;go_upto_region 10 with fail;rw [HB.out] at h2 hlW ⊢;refine wp_at (fun W => Hid (EB D A C w (.slice sa sl sc) n xs es B [.int .i64 1,.slice none 0 0,.int .i64 0,.string ⟨#[]⟩,.slice none 0 0,.slice none 0 0] W (k0+1) 0)) (by exact h2) ?_;clear h2 y0 y1 y2 yf hEW hRW HB;rintro W2 h2;obtain ⟨m,hm⟩:∃ m,(if D.c (k0+1)=91 then 2 else 1)=m:=⟨_,rfl⟩;have hm12:Hid (m=1\/m=2):=(by show _\/_;rw [<- hm];split <;> omega);have hm2:m<=2:=(by have:=hm12.out;omega);have hm1:1<=m:=(by have:=hm12.out;omega);have HRH2:Hid (rh=tblP D k0 m):=(by show _=_;rw [<- HRH.out,<- hm];unfold headP;rw [if_pos H91.out];split <;> rfl);have hkm:k0+m<=D.n:=by
      rw [<- hm];split
      ·have:=Doc.in_of (D:=D) (k:=k0+1) (by omega);omega
      ·omega
     have HM:=qqh hm;clear hm;obtain ⟨S,hS⟩:∃ S:ByteArray,(⟨(List.replicate m (93:UInt8)).toArray⟩:ByteArray)=S:=⟨_,rfl⟩;have HS:=qqh hS;clear hS;refine wp_cut (fun a wx => ∃ (c z9 z63 z114 z130 z172:Value) (F:Nat->Value),a=mk9 (.slice A D.n C) (.pointer (some ⟨w.heap.size,0,none⟩)) (.slice sa sl sc) (.int .u8 (D.c k0:Nat)) (.pointer (some ⟨B,0,none⟩)) (.string ⟨#[93]⟩) z9 c z63 z114 z130 z172 F/\(c=.bool (decide (D.c (k0+1)=91))/\∃ nn,wx=W2.drewN nn)) ?rest3 ?first3
     case first3 =>
      intro _ _ _ _;go_wp2_with fail
      refine (peek_c D w.heap.size A C (k0+1) 0 0 _ (by exact h2.out.ew.ps) (by omega) (by omega) (by omega)).mono ?_;rintro e w3 ⟨rfl,nq3,rfl⟩;simp only [Int.toNat_zero,Nat.add_zero];go_wp2_with fail
      refine Met.intro ?_
      go_step
      exact ⟨_,_,_,_,_,_,_,mk9_of _ rfl,congrArg Value.bool (by rw [Bool.eq_iff_iff,beq_iff_eq,decide_eq_true_iff];omega),_,rfl⟩
     case rest3 =>
      rintro _ wc ⟨_,_,_,_,_,_,F,rfl,hcut⟩;dsimp only [mk9];obtain ⟨rfl,nn,rfl⟩:=hcut;go_upto_if 41 with fail;refine wp_cut (fun a wx => ∃ (v z9 z41 z63 z114 z130 z172:Value) (F:Nat->Value),a=mk9 (.slice A D.n C) (.pointer (some ⟨w.heap.size,0,none⟩)) (.slice sa sl sc) (.int .u8 (D.c k0:Nat)) (.pointer (some ⟨B,0,none⟩)) v z9 z41 z63 z114 z130 z172 F/\(v=.string S/\Hid (EB D A C w (.slice sa sl sc) n xs es B [.int .i64 (m:Nat),.slice none 0 0,.int .i64 0,.string ⟨#[]⟩,.slice none 0 0,.slice none 0 0] wx (k0+m) 0))) ?rest4 ?first4
      case first4 =>
       intro _ _ _ _;by_cases h912:D.c (k0+1)=91
       ·rw [qqt h912];obtain rfl:2=m:=(by rw [<- HM.out,if_pos h912]);have hin2:=Doc.in_of (D:=D) (k:=k0+1) (by omega);have h2':=qqh (EB.putE (cs':=[.int .i64 2,.slice none 0 0,.int .i64 0,.string ⟨#[]⟩,.slice none 0 0,.slice none 0 0]) (EB.drewN h2.out nn) 0 (.int .i64 2) rfl);have h3:=qqh (EB.setAt h2'.out ((k0:Int)+1+1) (k0+2) (by omega));have c1:=h2.out.ew.ps.c1;have cf:=h2.out.ew.ps.f 1;have b0:=h2.out.blk.cell 0 rfl;have bf:=h2.out.blk.free 0;clear h912;go_wp2_with fail
        refine Met.intro ?_
        go_step
        exact ⟨_,_,_,_,_,_,_,_,mk9_of _ rfl,congrArg Value.string (by rw [<- HS.out];rfl),h3⟩
       ·rw [qqf h912];obtain rfl:1=m:=(by rw [<- HM.out,if_neg h912]);clear h912;go_wp2_with fail
        refine Met.intro ?_
        go_step
        exact ⟨_,_,_,_,_,_,_,_,mk9_of _ rfl,congrArg Value.string (by rw [<- HS.out];rfl),EB.drewN h2.out nn⟩
      case rest4 =>
       rintro _ wc ⟨_,_,_,_,_,_,_,F,rfl,hcut⟩;dsimp only [mk9];obtain ⟨rfl,h3⟩:=hcut;clear h2 HM;have hszB:=h3.out.size;go_wp2_with fail
       refine (keys_c D w.heap.size A C (k0+m) _ (by exact h3.out.ew.ps) hkm (fun a ha => by have:=HA.out a ha;omega)).mono ?_;rintro e w4 ⟨⟨v6,rfl,hko⟩,hpx,hkx⟩;have h4:=qqh (EB.call h3.out hpx hkx);have hs4:=h4.out.size;have hsl:IsSl v6:=KeysOk.sl hko;have hko:=qqh hko;have hs5:=hkx.size;clear hpx hkx;obtain ⟨ka,kl,kc,rfl⟩:=hsl;have b1:=h4.out.blk.cell 1 rfl;have bf:=h4.out.blk.free 1;have h5:=qqh (EB.putE (cs':=[.int .i64 (m:Nat),.slice ka kl kc,.int .i64 0,.string ⟨#[]⟩,.slice none 0 0,.slice none 0 0]) h4.out 1 (.slice ka kl kc) rfl);obtain ⟨kr,hkr⟩:∃ kr,keyP D (k0+m)=kr:=⟨_,rfl⟩;rw [hkr] at h4 h5 hko;have HKR:=qqh hkr;clear hkr;go_upto_region 14 with fail;refine wp_at (fun W => Hid (EB D A C w (.slice sa sl sc) n xs es B [.int .i64 (m:Nat),.slice ka kl kc,.int .i64 0,.string ⟨#[]⟩,.slice none 0 0,.slice none 0 0] W (kr.pos D) (kr.st 0)/\∀ ks k2,kr=.good ks k2->EK D A C w (.slice sa sl sc) n xs es B [.int .i64 (m:Nat),.slice ka kl kc,.int .i64 0,.string ⟨#[]⟩,.slice none 0 0,.slice none 0 0] (.slice ka kl kc) ks W k2 0)) ?_ ?_
       ·refine ⟨h5.out,fun ks k2 e => ?_⟩;subst e;have h7:OwnS w4 _ (.slice ka kl kc) ks:=hko.out;have h8:OwnS w4 (w.heap.size+1) (.slice ka kl kc) ks:=own_lower h7 (by have:=h3.out.lt;omega);refine ⟨h5.out,own_kp h8 ((Kp.refl (Only B) w4).putOnly (i:=1) _) (fun g hg hS => by have h1:=World.ownsRow.lt h7 g hg;have hS:g=B:=hS;omega),fun e => ?_,fun g hg e => ?_⟩
        ·have:=(World.ownsRow.lt h7 _ e).1;omega
        ·have:=(World.ownsRow.lt h7 _ hg).1;have:=hBn.out.2 _ e;omega
       clear h4 hs4 hs5 hko b1 bf h5 h3 hszB;rintro W5 h5;have c2:=h5.out.1.ew.ps.c2;refine wp_cut (fun a wx => ∃ (c z9 z41 z114 z130 z172:Value) (F:Nat->Value),a=mk9 (.slice A D.n C) (.pointer (some ⟨w.heap.size,0,none⟩)) (.slice sa sl sc) (.int .u8 (D.c k0:Nat)) (.pointer (some ⟨B,0,none⟩)) (.string S) z9 z41 c z114 z130 z172 F/\(c=.bool (HKB D m kr)/\∃ nn,wx=W5.drewN nn)) ?rest5 ?first5
       case first5 =>
        intro _ _ _ _;cases kr with
        | good ks k2 =>
         have hkg:=keyP_ge D _ k2 ks HKR.out;go_wp2_with fail
         refine (has_m D w.heap.size A C k2 0 m S HS.out hm12.out _ (by exact h5.out.1.ew.ps) (by omega)).mono ?_;rintro e wh ⟨rfl,nh,rfl⟩;go_wp2_with fail
         refine Met.intro ?_
         go_step
         exact ⟨_,_,_,_,_,_,_,mk9_of _ rfl,by simp [HKB],_,rfl⟩
        | bad =>
         go_wp2_with fail
         refine Met.intro ?_
         go_step
         exact ⟨_,_,_,_,_,_,_,mk9_of _ rfl,rfl,0,rfl⟩
        | opn =>
         go_wp2_with fail
         refine Met.intro ?_
         go_step
         exact ⟨_,_,_,_,_,_,_,mk9_of _ rfl,rfl,0,rfl⟩
       case rest5 =>
        rintro _ wc ⟨_,_,_,_,_,_,F,rfl,hcut⟩;dsimp only [mk9];obtain ⟨rfl,nn,rfl⟩:=hcut;clear c2;go_upto_if 63 with fail;refine wp_cut (fun a wx => ∃ (z9 z41 z63 z114 z130 z172:Value) (F:Nat->Value),a=mk9 (.slice A D.n C) (.pointer (some ⟨w.heap.size,0,none⟩)) (.slice sa sl sc) (.int .u8 (D.c k0:Nat)) (.pointer (some ⟨B,0,none⟩)) (.string S) z9 z41 z63 z114 z130 z172 F/\(∃ p st,Hid (TPre D A C w (.slice sa sl sc) n xs es B m (.slice ka kl kc) wx rh p st))) ?rest6 ?first6
        case first6 =>
         intro _ _ _ _;cases kr with
         | good ks k2 =>
          have hkg:=keyP_ge D _ k2 ks HKR.out;by_cases hc:D.c k2=93/\(m=2->D.c (k2+1)=93)
          ·rw [show HKB D m (.good ks k2)=false by show (!decide (D.c k2=93/\(m=2->D.c (k2+1)=93)))=false;rw [qqt hc];rfl];have hres:Hid (rh=.good (some ⟨m,ks,.zero⟩) (k2+m)):=(by show _=_;rw [HRH2.out];unfold tblP;rw [HKR.out];simp only [];rw [if_pos hc]);clear hc;go_wp2_with fail
           refine Met.intro ?_
           go_step
           exact ⟨_,_,_,_,_,_,_,mk9_of _ rfl,k2,0,by omega,h5.out.1.drewN nn,by rw [hres.out];exact ⟨rfl,rfl,ks,rfl,(h5.out.2 ks k2 rfl).drewN nn⟩⟩
          ·rw [show HKB D m (.good ks k2)=true by show (!decide (D.c k2=93/\(m=2->D.c (k2+1)=93)))=true;rw [qqf hc];rfl];have hres:Hid (rh=.bad):=(by show _=_;rw [HRH2.out];unfold tblP;rw [HKR.out];simp only [];rw [if_neg hc]);clear hc;go_wp2_with fail
           refine (fail_c D w.heap.size A C k2 0 _ (by exact h5.out.1.ew.ps.drewN nn)).mono ?_;rintro e w6 ⟨rfl,hpx,hkx⟩;have h6:=qqh (EB.call (EB.drewN h5.out.1 nn) hpx hkx);clear hpx hkx;go_wp2_with fail
           refine Met.intro ?_
           go_step
           exact ⟨_,_,_,_,_,_,_,mk9_of _ rfl,D.n,1,qqr _,h6.out,by rw [hres.out]⟩
         | bad =>
          have hres:Hid (rh=.bad):=(by show _=_;rw [HRH2.out];unfold tblP;rw [HKR.out]);go_wp2_with fail
          refine Met.intro ?_
          go_step
          exact ⟨_,_,_,_,_,_,_,mk9_of _ rfl,D.n,1,qqr _,h5.out.1.drewN nn,by rw [hres.out]⟩
         | opn =>
          have hres:Hid (rh=.opn):=(by show _=_;rw [HRH2.out];unfold tblP;rw [HKR.out]);go_wp2_with fail
          refine Met.intro ?_
          go_step
          exact ⟨_,_,_,_,_,_,_,mk9_of _ rfl,D.n,2,qqr _,h5.out.1.drewN nn,by rw [hres.out]⟩
        case rest6 =>
         rintro _ wc ⟨_,_,_,_,_,_,F,rfl,hcut⟩;dsimp only [mk9];obtain ⟨p,st,hT⟩:=hcut;clear h5;have hpn:=hT.out.1;have hSz:S.size=m:=(by rw [<- HS.out];simp [ByteArray.size]);have HSZ:=qqh hSz;have hSz2:S.size<=2:=(by omega);clear hSz;have c1:=hT.out.2.1.ew.ps.c1;have cf:=hT.out.2.1.ew.ps.f 1;have h6:=qqh (EB.setAt hT.out.2.1 ((p:Int)+(S.size:Int)) (p+m) (by have:=HSZ.out;omega));have hB6:=h6.out.blk;have q0:=hT.out.2.1.blk.cell 0 rfl;have q1:=hT.out.2.1.blk.cell 1 rfl;have q2:=hT.out.2.1.blk.cell 2 rfl;have q3:=hT.out.2.1.blk.cell 3 rfl;have q4:=hT.out.2.1.blk.cell 4 rfl;have q5:=hT.out.2.1.blk.cell 5 rfl;have hsB:=hT.out.2.1.size;have hsE:w.heap.size+1<=wc.heap.size:=(by have:=hT.out.2.1.lt;have:=hT.out.2.1.size;omega);clear hB6;go_wp2_with (at_builtin;refine wpList_appF rfl T26 _ _ rfl (w.heap.size+1) _ n xs rfl (by exact own_alloc h6.out.ew.own _) wc.heap.size 1 _ rfl [.int .i64 (m:Nat),.slice ka kl kc,.int .i64 0,.string ⟨#[]⟩,.slice none 0 0,.slice none 0 0] rfl (fun j u hu => by rw [cell_new (by simp)];simpa using hu) (fun u hu => by simp at hu;rcases hu with rfl | rfl | rfl | rfl | rfl | rfl <;> rfl) (by omega) (by omega) (by exact EB.base h6.out _) ?_)
         intro v' w9 hown9 hg9 hfr9;obtain ⟨sa',sl',sc',rfl⟩:=IsSl.own hown9;go_wp2_with fail
         refine Met.intro ?_
         go_step
         exact ⟨_,_,_,_,_,_,_,_,_,_,_,mk9_of _ rfl,sa',sl',sc',n+1,p+m,st,_,rfl,EW.grown (EW.alloc h6.out.ew _) hg9 hown9,TPre.done hT.out _ (by have:=HSZ.out;omega) _ hg9 hown9 hfr9⟩
    ·have e91:((D.c k0:Int) == 91)=false:=qqn (by omega);have H91:=qqh h91;clear h91;by_cases hkv:k0<D.n/\D.c k0 ≠ 35/\D.c k0 ≠ 10/\D.c k0 ≠ 13
     ·have HRH2:Hid (rh=kvP D k0):=(by show _=_;rw [<- HRH.out];unfold headP;rw [if_neg H91.out,if_pos hkv]);have hk0n:=hkv.1;have hk0i:(k0:Int)<D.n:=(by omega);have n35:((D.c k0:Int) != 35)=true:=(by rw [bne_iff_ne];omega);have n10:((D.c k0:Int) != 10)=true:=(by rw [bne_iff_ne];omega);have n13:((D.c k0:Int) != 13)=true:=(by rw [bne_iff_ne];omega);clear hkv;go_wp2_with fail
      go_quiet (fail)
      go_wp2_with fail
      refine (keys_c D w.heap.size A C k0 _ (by exact hEW.out.ps.drewN _) (by omega) (fun a ha => by have:=HA.out a ha;simp;omega)).mono ?_;rintro e w4 ⟨⟨v6,rfl,hko⟩,hpx,hkx⟩;have hE4:=qqh (EW.call (hEW.out.drewN _) hpx hkx);have hR4:=qqh (RepX.call (w:=W.drewN nq) (RepX.same hRW.out rfl) hkx);have hsl:IsSl v6:=KeysOk.sl hko;have hko:=qqh hko;have hsz:W.heap.size<=w4.heap.size:=hkx.size;have hlw4:=hE4.out.ps.blk.lt;clear hpx hkx y0 y1 y2 yf;obtain ⟨ka,kl,kc,rfl⟩:=hsl;have h5:=qqh (EB.start hE4.out hR4.out [.int .i64 0,.slice ka kl kc,.int .i64 0,.string ⟨#[]⟩,.slice none 0 0,.slice none 0 0] rfl);obtain ⟨kr,hkr⟩:∃ kr,keyP D k0=kr:=⟨_,rfl⟩;rw [hkr] at hE4 h5 hko;have HKR:=qqh hkr;clear hkr;have hlB:=h5.out.lt;obtain ⟨B,hB⟩:∃ B,w4.heap.size=B:=⟨_,rfl⟩;have HB:=qqh hB;clear hB;go_upto_region 20 with fail;rw [HB.out] at h5 hlB ⊢;refine wp_at (fun W => Hid (EB D A C w (.slice sa sl sc) n xs es B [.int .i64 0,.slice ka kl kc,.int .i64 0,.string ⟨#[]⟩,.slice none 0 0,.slice none 0 0] W (kr.pos D) (kr.st 0)/\∀ ks k2,kr=.good ks k2->EK D A C w (.slice sa sl sc) n xs es B [.int .i64 0,.slice ka kl kc,.int .i64 0,.string ⟨#[]⟩,.slice none 0 0,.slice none 0 0] (.slice ka kl kc) ks W k2 0)) ?_ ?_
      ·refine ⟨h5.out,fun ks k2 e => ?_⟩;subst e;have h7:OwnS w4 W.heap.size (.slice ka kl kc) ks:=hko.out;refine ⟨h5.out,own_alloc (own_lower h7 (by omega)) _,fun e => ?_,fun g hg e => ?_⟩
       ·have:=(World.ownsRow.lt h7 _ e).2;have:=HB.out;omega
       ·have:=(World.ownsRow.lt h7 _ hg).1;have:=(hEW.out.own.lt _ e).2;omega
      clear h5 hE4 hR4 hko hsz hlw4 HB hEW hRW;rintro W5 h5;have c2:=h5.out.1.ew.ps.c2;refine wp_cut (fun a wx => ∃ (c z6 z7 z8 z41 z63 z130 z172:Value) (F:Nat->Value),a=mk9 (.slice A D.n C) (.pointer (some ⟨w.heap.size,0,none⟩)) (.slice sa sl sc) z6 z7 z8 (.pointer (some ⟨B,0,none⟩)) z41 z63 c z130 z172 F/\(c=.bool (KV D kr)/\∃ nn,wx=W5.drewN nn)) ?rest7 ?first7
      case first7 =>
       intro _ _ _ _;cases kr with
       | good ks k2 =>
        have hkg:=keyP_ge D _ k2 ks HKR.out;go_wp2_with fail
        refine (peek_c D w.heap.size A C k2 0 0 _ (by exact h5.out.1.ew.ps) (by omega) (by omega) (by omega)).mono ?_;rintro e w5 ⟨rfl,nq5,rfl⟩;simp only [Int.toNat_zero,Nat.add_zero];go_wp2_with fail
        refine Met.intro ?_
        go_step
        exact ⟨_,_,_,_,_,_,_,_,_,mk9_of _ rfl,rfl,_,rfl⟩
       | bad =>
        go_wp2_with fail
        refine Met.intro ?_
        go_step
        exact ⟨_,_,_,_,_,_,_,_,_,mk9_of _ rfl,rfl,0,rfl⟩
       | opn =>
        go_wp2_with fail
        refine Met.intro ?_
        go_step
        exact ⟨_,_,_,_,_,_,_,_,_,mk9_of _ rfl,rfl,0,rfl⟩
      case rest7 =>
       rintro _ wc ⟨_,_,_,_,_,_,_,_,F,rfl,hcut⟩;dsimp only [mk9];obtain ⟨rfl,nn,rfl⟩:=hcut;clear c2;go_upto_if 114 with fail;refine wp_cut (fun a wx => ∃ (z6 z7 z8 z41 z63 z114 z130 z172:Value) (F:Nat->Value),a=mk9 (.slice A D.n C) (.pointer (some ⟨w.heap.size,0,none⟩)) (.slice sa sl sc) z6 z7 z8 (.pointer (some ⟨B,0,none⟩)) z41 z63 z114 z130 z172 F/\(∃ p st,Hid (VPre D A C w (.slice sa sl sc) n xs es B (.slice ka kl kc) wx k0 rh p st))) ?rest8 ?first8
       case first8 =>
        intro _ _ _ _;cases kr with
        | good ks k2 =>
         have hkg:=keyP_ge D _ k2 ks HKR.out;by_cases hc:D.c k2=61
         ·rw [show KV D (.good ks k2)=false by unfold KV;rw [bne_eq_false_iff_eq];omega];have HC:=qqh hc;clear hc;go_wp2_with fail
          refine Met.intro ?_
          go_step
          exact ⟨_,_,_,_,_,_,_,_,_,mk9_of _ rfl,k2,0,by omega,h5.out.1.drewN nn,.inl ⟨rfl,ks,(h5.out.2 ks k2 rfl).drewN nn,HKR.out,HC.out⟩⟩
         ·rw [show KV D (.good ks k2)=true by unfold KV;rw [bne_iff_ne];omega];have hres:Hid (rh=.bad):=(by show _=_;rw [HRH2.out];unfold kvP;rw [HKR.out];simp only [];rw [if_neg hc]);clear hc;go_wp2_with fail
          refine (fail_c D w.heap.size A C k2 0 _ (by exact h5.out.1.ew.ps.drewN nn)).mono ?_;rintro e w6 ⟨rfl,hpx,hkx⟩;have h6:=qqh (EB.call (EB.drewN h5.out.1 nn) hpx hkx);clear hpx hkx;go_wp2_with fail
          refine Met.intro ?_
          go_step
          exact ⟨_,_,_,_,_,_,_,_,_,mk9_of _ rfl,D.n,1,qqr _,h6.out,.inr (.inl ⟨rfl,hres.out⟩)⟩
        | bad =>
         have hres:Hid (rh=.bad):=(by show _=_;rw [HRH2.out];unfold kvP;rw [HKR.out]);go_wp2_with fail
         refine Met.intro ?_
         go_step
         exact ⟨_,_,_,_,_,_,_,_,_,mk9_of _ rfl,D.n,1,qqr _,h5.out.1.drewN nn,.inr (.inl ⟨rfl,hres.out⟩)⟩
        | opn =>
         have hres:Hid (rh=.opn):=(by show _=_;rw [HRH2.out];unfold kvP;rw [HKR.out]);go_wp2_with fail
         refine Met.intro ?_
         go_step
         exact ⟨_,_,_,_,_,_,_,_,_,mk9_of _ rfl,D.n,2,qqr _,h5.out.1.drewN nn,.inr (.inr ⟨rfl,hres.out⟩)⟩
       case rest8 =>
        rintro _ wc ⟨_,_,_,_,_,_,_,_,F,rfl,hcut⟩;dsimp only [mk9];obtain ⟨p,st,hT⟩:=hcut;clear h5;have hpn:=hT.out.1;have c1:=hT.out.2.1.ew.ps.c1;have cf:=hT.out.2.1.ew.ps.f 1;have h6:=qqh (EB.setAt hT.out.2.1 ((p:Int)+1) (p+1) (by omega));obtain ⟨k3,hk3⟩:∃ t,wsEnd D (p+1)=t:=⟨_,rfl⟩;have HK3:=qqh hk3;clear hk3;go_wp2_with fail
        refine (blanks_c D w.heap.size A C (p+1) st _ (by exact h6.out.ew.ps) (by omega)).mono ?_;rintro e w7 ⟨rfl,hpx,hkx⟩;rw [HK3.out] at hpx;have h7:Hid (UPre D A C w (.slice sa sl sc) n xs es B (.slice ka kl kc) w7 k0 rh k3 st):=UPre.of hT.out ((p:Int)+1) (by omega) HK3.out hpx hkx;clear hpx hkx c1 cf h6 HK3 hT;have d2:=h7.out.1.ew.ps.c2;go_upto_if 130 with fail;clear d2;refine wp_cut (fun a wx => ∃ (z6 z7 z8 z41 z63 z114 z130 z172:Value) (F:Nat->Value),a=mk9 (.slice A D.n C) (.pointer (some ⟨w.heap.size,0,none⟩)) (.slice sa sl sc) z6 z7 z8 (.pointer (some ⟨B,0,none⟩)) z41 z63 z114 z130 z172 F/\(∃ p st vk vl ia il ic ja jl jc,Hid (WPre D A C w (.slice sa sl sc) n xs es B (.slice ka kl kc) (.int .i64 vk) (.string vl) (.slice ia il ic) (.slice ja jl jc) wx rh p st))) ?rest9 ?first9
        case first9 =>
         intro _ _ _ _;rcases h7.out with ⟨hb,⟨rfl,ks,p0,hk,hkey,h61,hk3n,hk3le⟩ | ⟨rfl,hres⟩ | ⟨rfl,hres⟩⟩
         ·have hsz7:w.heap.size<w7.heap.size:=(by have:=hk.eb.lt;have:=hk.eb.size;omega);have hk:=qqh hk;have HKEY:=qqh hkey;have H61:=qqh h61;clear hb hkey h61 h7;go_wp2_with fail
          refine ((value_all D 51 (by omega)).1 w.heap.size A C k3 _ 0 (by omega) (by exact hk.out.eb.ew.ps) (by omega) (fun a ha => by have:=HA.out a ha;omega)).mono ?_;rintro e w8 ⟨⟨cs,rfl,hval⟩,hpx,hkx⟩;obtain ⟨vk,vl,vi,vy,rfl,⟨ia,il,ic,rfl⟩,⟨ja,jl,jc,rfl⟩⟩:=ValOk.node hval;have h8:=qqh (EK.call hk.out hpx hkx);have hval:=qqh hval;have hBl:=hk.out.eb.size;clear hpx hkx;have r2:=h8.out.eb.blk.free 2;have r3:=h8.out.eb.blk.free 3;have r4:=h8.out.eb.blk.free 4;have r5:=h8.out.eb.blk.free 5;have o0:=h8.out.eb.blk.cell 0 rfl;have o1:=h8.out.eb.blk.cell 1 rfl;have o2:=h8.out.eb.blk.cell 2 rfl;have o3:=h8.out.eb.blk.cell 3 rfl;have o4:=h8.out.eb.blk.cell 4 rfl;have o5:=h8.out.eb.blk.cell 5 rfl;go_wp2_with fail
          refine Met.intro ?_
          go_step
          exact ⟨_,_,_,_,_,_,_,_,_,mk9_of _ rfl,_,_,vk,vl,ia,il,ic,ja,jl,jc,WPre.value h8.out hval.out hBl (fun g hg => (hk.out.eb.ew.own.lt g hg).2) (by have:=hk.out.eb.lt;omega) (by rw [HRH2.out];unfold kvP;rw [HKEY.out];simp only [];rw [if_pos H61.out,hk3n];cases valP D 51 k3 <;> rfl)⟩
         ·go_wp2_with fail
          refine Met.intro ?_
          go_step
          exact ⟨_,_,_,_,_,_,_,_,_,mk9_of _ rfl,_,_,_,_,_,_,_,_,_,_,WPre.dead hb (.inl ⟨rfl,hres⟩)⟩
         ·go_wp2_with fail
          refine Met.intro ?_
          go_step
          exact ⟨_,_,_,_,_,_,_,_,_,mk9_of _ rfl,_,_,_,_,_,_,_,_,_,_,WPre.dead hb (.inr ⟨rfl,hres⟩)⟩
        case rest9 =>
         rintro _ wc ⟨_,_,_,_,_,_,_,_,F,rfl,hcut⟩;dsimp only [mk9];obtain ⟨p,st,vk,vl,ia,il,ic,ja,jl,jc,hT⟩:=hcut;clear h7;have h6:=qqh hT.out.1;have q0:=h6.out.blk.cell 0 rfl;have q1:=h6.out.blk.cell 1 rfl;have q2:=h6.out.blk.cell 2 rfl;have q3:=h6.out.blk.cell 3 rfl;have q4:=h6.out.blk.cell 4 rfl;have q5:=h6.out.blk.cell 5 rfl;have hsB:=h6.out.size;have hsE:w.heap.size+1<=wc.heap.size:=(by have:=h6.out.lt;omega);go_wp2_with (at_builtin;refine wpList_appF rfl T26 _ _ rfl (w.heap.size+1) _ n xs rfl (by exact own_alloc h6.out.ew.own _) wc.heap.size 1 _ rfl [.int .i64 0,.slice ka kl kc,.int .i64 vk,.string vl,.slice ia il ic,.slice ja jl jc] rfl (fun j u hu => by rw [cell_new (by simp)];simpa using hu) (fun u hu => by simp at hu;rcases hu with rfl | rfl | rfl | rfl | rfl | rfl <;> rfl) (by omega) (by omega) (by exact EB.base h6.out _) ?_)
         intro v' w9 hown9 hg9 hfr9;obtain ⟨sa',sl',sc',rfl⟩:=IsSl.own hown9;go_wp2_with fail
         refine Met.intro ?_
         go_step
         exact ⟨_,_,_,_,_,_,_,_,_,_,_,mk9_of _ rfl,sa',sl',sc',n+1,p,st,_,rfl,EW.grown (EW.alloc h6.out.ew _) hg9 hown9,WPre.done hT.out _ hg9 hown9 hfr9⟩
     ·rcases qqg k0 D.n with hk0n | hk0n
      ·have hk0i:(k0:Int)<D.n:=(by omega);by_cases x35:D.c k0=35
       ·have hres:Hid (rh=.good none k0):=(by show _=_;rw [<- HRH.out];unfold headP;rw [if_neg H91.out,if_neg hkv]);have n35:((D.c k0:Int) != 35)=false:=(by rw [bne_eq_false_iff_eq];omega);clear x35;clear hkv;go_wp2_with fail
        go_quiet (fail)
        go_wp2_with fail
        refine Met.intro ?_
        go_step
        exact ⟨_,_,_,_,_,_,_,_,_,_,_,mk9_of _ rfl,sa,sl,sc,n,k0,0,xs,rfl,hEW.out.drewN _,by rw [hres.out];exact ⟨rfl,rfl,rfl,by rw [Option.toList_none,List.append_nil];exact RepX.same hRW.out rfl⟩⟩
       by_cases x10:D.c k0=10
       ·have hres:Hid (rh=.good none k0):=(by show _=_;rw [<- HRH.out];unfold headP;rw [if_neg H91.out,if_neg hkv]);have n35:((D.c k0:Int) != 35)=true:=(by rw [bne_iff_ne];omega);have n10:((D.c k0:Int) != 10)=false:=(by rw [bne_eq_false_iff_eq];omega);clear x10 x35;clear hkv;go_wp2_with fail
        go_quiet (fail)
        go_wp2_with fail
        refine Met.intro ?_
        go_step
        exact ⟨_,_,_,_,_,_,_,_,_,_,_,mk9_of _ rfl,sa,sl,sc,n,k0,0,xs,rfl,hEW.out.drewN _,by rw [hres.out];exact ⟨rfl,rfl,rfl,by rw [Option.toList_none,List.append_nil];exact RepX.same hRW.out rfl⟩⟩
       have x13:D.c k0=13:=(by omega);have hres:Hid (rh=.good none k0):=(by show _=_;rw [<- HRH.out];unfold headP;rw [if_neg H91.out,if_neg hkv]);have n35:((D.c k0:Int) != 35)=true:=(by rw [bne_iff_ne];omega);have n10:((D.c k0:Int) != 10)=true:=(by rw [bne_iff_ne];omega);have n13:((D.c k0:Int) != 13)=false:=(by rw [bne_eq_false_iff_eq];omega);clear x10 x35 x13;clear hkv;go_wp2_with fail
       go_quiet (fail)
       go_wp2_with fail
       refine Met.intro ?_
       go_step
       exact ⟨_,_,_,_,_,_,_,_,_,_,_,mk9_of _ rfl,sa,sl,sc,n,k0,0,xs,rfl,hEW.out.drewN _,by rw [hres.out];exact ⟨rfl,rfl,rfl,by rw [Option.toList_none,List.append_nil];exact RepX.same hRW.out rfl⟩⟩
      ·obtain rfl:k0=D.n:=(by omega);have hk0i:decide ((D.n:Int)<D.n)=false:=qqf (by omega);have hres:Hid (rh=.good none D.n):=(by show _=_;rw [<- HRH.out];unfold headP;rw [if_neg H91.out,if_neg hkv]);clear hkv;go_wp2_with fail
       go_quiet (fail)
       go_wp2_with fail
       refine Met.intro ?_
       go_step
       exact ⟨_,_,_,_,_,_,_,_,_,_,_,mk9_of _ rfl,sa,sl,sc,n,D.n,0,xs,rfl,hEW.out.drewN _,by rw [hres.out];exact ⟨rfl,rfl,rfl,by rw [Option.toList_none,List.append_nil];exact RepX.same hRW.out rfl⟩⟩
   case rest2 =>
    rintro _ wc ⟨_,_,_,_,_,_,_,_,_,_,F,rfl,hcut⟩;dsimp only [mk9];obtain ⟨sa',sl',sc',n',p,st,xs',rfl,hE2,hO⟩:=hcut;cases rh with
    | good o k1 =>
     obtain ⟨rfl,rfl,hn',hR2⟩:=hO.out;have hge1:=hge0.out o p rfl;have hR2:=qqh hR2;have HN':=qqh hn';have hno:n'<=n+1:=(by rw [hn'];cases o <;> simp);clear hO hn';have z2:=hE2.out.ps.c2;have hc1:=wsEnd_ge D p;have hc2:=wsEnd_le D p;obtain ⟨k2,hk2⟩:∃ t,wsEnd D p=t:=⟨_,rfl⟩;rw [hk2] at hc1 hc2;have HK2:=qqh hk2;clear hk2;go_wp2_with fail
     refine (blanks_c D w.heap.size A C p 0 _ (by exact hE2.out.ps) (by omega)).mono ?_;rintro e w3 ⟨rfl,hpx,hkx⟩;rw [HK2.out] at hpx;have hE3:=qqh (EW.call hE2.out hpx hkx);have hR3:=qqh (RepX.call hR2.out hkx);clear hpx hkx z2;go_wp2_with fail
     refine (comment_c D w.heap.size A C k2 0 _ (by exact hE3.out.ps) (by omega)).mono ?_;rintro e w4 ⟨rfl,hpx,hkx⟩;have hE4:=qqh (EW.call hE3.out hpx hkx);have hR4:=qqh (RepX.call hR3.out hkx);clear hpx hkx;cases hcm:cmt D k2 with
     | good u k3 =>
      have hE4:Hid (EW D A C w (.slice sa' sl' sc') n' xs' w4 k3 0):=(by have:=hE4.out;rw [hcm] at this;exact this);have hc3:=cmt_ge D k2 k3 hcm;have hc4:=cmt_le D k2 k3 hcm;have HCM:=qqh hcm;clear hcm;have z0:=hE4.out.ps.c0;have z1:=hE4.out.ps.c1;have z2:=hE4.out.ps.c2;rcases qqg k3 D.n with hl3 | hl3
      ·have hl3':(k3:Int)<D.n:=(by omega);go_upto_region 31 with fail;refine wp_cut (fun a wx => ∃ (b z6 z7 z8 z9 z41 z63 z114 z130:Value) (F:Nat->Value),a=mk9 (.slice A D.n C) (.pointer (some ⟨w.heap.size,0,none⟩)) (.slice sa' sl' sc') z6 z7 z8 z9 z41 z63 z114 z130 b F/\(b=.bool (decide (nlen D k3=0))/\Hid (EW D A C w (.slice sa' sl' sc') n' xs' wx (k3+nlen D k3) 0)/\Hid (RepX wx (w.heap.size+1) (fun b => (Value.slice sa' sl' sc').ownBlock ≠ some b) (es++o.toList) xs'))) ?rest10 ?first10
       case first10 =>
        intro _ _ _ _
        go_still_tail 19,(by kernel_rfl)
        change wpList _ _ _ _ _ w4.drew;go_wp2_with (go_at_call 26;refine (line_c D w.heap.size A C k3 0 _ (by exact hE4.out.ps.drew) (by omega)).mono ?_;rintro e w5 ⟨rfl,hpx,hkx⟩;have HPX:=qqh hpx;have HKX:=qqh hkx;clear hpx hkx)
        refine Met.intro ?_
        go_step
        exact ⟨_,_,_,_,_,_,_,_,_,_,mk9_of _ rfl,by simp,EW.call (EW.drew hE4.out) HPX.out HKX.out,RepX.call (w:=w4.drew) (RepX.same hR4.out rfl) HKX.out⟩
       case rest10 =>
        rintro _ wc ⟨_,_,_,_,_,_,_,_,_,F,rfl,hcut⟩;dsimp only [mk9];obtain ⟨hb,hE5,hR5⟩:=hcut;by_cases hnl:nlen D k3=0
        ·have hf:Hid (rr=.bad):=by
          show _=_;rw [hrun.out];refine doc_tbad hlt (by rw [HK0.out];exact HRH.out) ?_;unfold tailP;rw [HK2.out,HCM.out];simp only [];unfold eolP;rw [if_neg (by omega),if_pos hnl]
         have hE5:Hid (EW D A C w (.slice sa' sl' sc') n' xs' wc k3 0):=(by have:=hE5.out;rw [hnl] at this;exact this);rw [qqt hnl] at hb;subst hb;clear hnl;go_wp2_with fail
         refine (fail_c D w.heap.size A C k3 0 _ (by exact hE5.out.ps)).mono ?_;rintro e w6 ⟨rfl,hpx,hkx⟩;have hE6:=qqh (EW.call hE5.out hpx hkx);clear hpx hkx;have v2:=hE6.out.ps.c2;go_wp2_with fail
         go_quiet (fail)
         go_wp2_with fail
         go_ret2;refine ⟨hE6.out.kp.drewN _,?_⟩;rw [hf.out]
         rfl
        ·rw [qqf hnl] at hb;subst hb;have hin3:=nlen_inq hnl;have htl:tailP D p=.good () (k3+nlen D k3):=by
          unfold tailP;rw [HK2.out,HCM.out];simp only [];unfold eolP;rw [if_neg (by omega),if_neg hnl]
         have hgo:=doc_go (acc:=es) hlt (by rw [HK0.out];exact HRH.out) htl;have HGO:=qqh hgo.2.2;have hlt5:=hgo.1;have v2:=hE5.out.ps.c2;obtain ⟨k5,hk5⟩:∃ t,k3+nlen D k3=t:=⟨_,rfl⟩;rw [hk5] at hlt5 hE5 HGO hin3;clear hgo htl hnl hk5;go_wp2_with fail
         refine ⟨⟨_,_,_,_,_,_,_,_,_,_,_,mk9_of _ rfl,k5,n',xs',es++o.toList,hin3,by omega,by rw [qqa,HES.out,HN'.out],hE5.out,hR5.out,by rw [hrun.out];exact HGO.out⟩,?_⟩;rw [hE.out.ps.left,hE5.out.ps.left];omega
      ·obtain rfl:k3=D.n:=(by omega);have hl3':decide ((D.n:Int)<D.n)=false:=qqf (by omega);have htl:tailP D p=.good () D.n:=by
        unfold tailP;rw [HK2.out,HCM.out];simp only [];unfold eolP;rw [if_pos (qqr _)]
       have hgo:=doc_go (acc:=es) hlt (by rw [HK0.out];exact HRH.out) htl;have HGO:=qqh hgo.2.2;clear htl hgo;go_wp2_with fail
       go_quiet (fail)
       go_wp2_with fail
       refine ⟨⟨_,_,_,_,_,_,_,_,_,_,_,mk9_of _ rfl,D.n,n',xs',es++o.toList,qqr _,by omega,by rw [qqa,HES.out,HN'.out],hE4.out.drewN _,RepX.same hR4.out rfl,by rw [hrun.out];exact HGO.out⟩,?_⟩;rw [hE.out.ps.left,(EW.drewN hE4.out _).ps.left];omega
     | bad =>
      have hE6:Hid (EW D A C w (.slice sa' sl' sc') n' xs' w4 D.n 1):=(by have:=hE4.out;rw [hcm] at this;exact this);have hf:Hid (rr=.bad):=by
       show _=_;rw [hrun.out];refine doc_tbad hlt (by rw [HK0.out];exact HRH.out) ?_;unfold tailP;rw [HK2.out,hcm]
      clear hcm hE4 hR4;have z2:=hE6.out.ps.c2;go_wp2_with fail
      go_quiet (fail)
      go_wp2_with fail
      go_quiet (fail)
      go_wp2_with fail
      go_ret2;refine ⟨(hE6.out.kp.drewN _).drewN _,?_⟩;rw [hf.out]
      rfl
     | opn => exact absurd hcm (cmt_not_opn D k2)
    | bad =>
     obtain rfl:st=1:=hO.out;have hf:Hid (rr=.bad):=(by show _=_;rw [hrun.out];exact doc_hbad hlt (by rw [HK0.out];exact HRH.out));have z2:=hE2.out.ps.c2;go_wp2_with fail
     go_quiet (fail)
     go_wp2_with fail
     go_ret2;refine ⟨hE2.out.kp.drewN _,?_⟩;rw [hf.out]
     rfl
    | opn =>
     obtain rfl:st=2:=hO.out;have hf:Hid (rr=.opn):=(by show _=_;rw [hrun.out];exact doc_hopn hlt (by rw [HK0.out];exact HRH.out));have z2:=hE2.out.ps.c2;go_wp2_with fail
     go_quiet (fail)
     go_wp2_with fail
     go_ret2;refine ⟨hE2.out.kp.drewN _,?_⟩;rw [hf.out]
     rfl
  ·obtain rfl:k=D.n:=(by omega);have hlt':decide ((D.n:Int)<D.n)=false:=qqf (by omega);have hf:Hid (rr=.good es D.n):=(by show _=_;rw [hrun.out,doc_end (qqr _)]);go_wp2_with fail
   go_quiet (fail)
   go_wp2_with fail
   go_quiet (fail)
   go_wp2_with fail
   go_ret2;refine ⟨(hE.out.kp.drewN _).drewN _,?_⟩;rw [hf.out];exact ⟨_,xs,rfl,by rw [HES.out];exact hE.out.own,RepX.same hR.out rfl⟩
end Go.Proofs.YtpgmddjgcgpoeaaGreat
