/-
  FnTurned returns true for every row of numbers, every code, place, byte and way, and leaves what it was given as it was. No condition.
-/
import Derived.Test.YtpgmddjgcgpoeaaGreatRows
import Derived.Test.YtpgmddjgcgpoeaaGreatD48
import Derived.Test.YtpgmddjgcgpoeaaGreatD47
set_option linter.unusedVariables false
set_option linter.unusedSimpArgs false
set_option maxRecDepth 100000
set_option maxHeartbeats 8000000
namespace Go.Proofs.YtpgmddjgcgpoeaaGreat
open Go.ChangeShapes Go.WideShapes Go.ChangeAt Go.RowKit
theorem turn_walk (NA A:Option Addr) (nn NC cn C:Nat) (x y z:Int) (zn zc:List Int) (w:World) (hn:IsNums w NA nn NC zn) (hc:IsBytes w A cn C zc) (hA:∀ a,A=some a->a.block<w.heap.size) (hx:0<=x/\x<=4294967295) (hy:0<=y/\y<=255) (hz:0<=z/\z<=255) :
  Calls Tryz.prog 5 #[.slice NA nn NC,.slice A cn C,.int .u32 x,.int .u8 y,.int .u8 z] w fun e w' => e=.returned (.bool true)/\Kp Nil w w':=by
 by_cases hs:100<nn\/1000<cn
 ·exact fturn_big NA A nn NC cn C x y z w hs
 ·obtain ⟨D,rfl,hd⟩:=hc.doc hA (by omega);obtain ⟨x,rfl⟩:=Int.eq_ofNat_of_zero_le hx.1;obtain ⟨y,rfl⟩:=Int.eq_ofNat_of_zero_le hy.1;obtain ⟨z,rfl⟩:=Int.eq_ofNat_of_zero_le hz.1;exact fturn_c D NA A nn NC C x y z w hn.num (by omega) hd hA (by omega) (by omega) (by omega) (by omega)
theorem turn_lifted (os:Os) (started:os.Started) (H:Type) (enc:TypeId × Value->H) :
  ReturnsInHanded {} Tryz.checked os 5 .any (Rows.fnTurnedSpec.pre6 enc Tryz.prog Tryz.f5 Rows.fnTurnedRow.domain false) (Rows.fnTurnedSpec.post enc Tryz.prog Tryz.f5 false true false false):=by
 refine returnsInHanded_of_change (C:=Tryz.checked) tryzOwn started (by kernel_rfl) Tryz.func5
  (ChangeSpec.witness6 (enc:=enc) (C:=Tryz.checked) false ⟨#[],#[.slice none 0 0,.slice none 0 0,.int .u32 0,.int .u8 0,.int .u8 0],[]⟩ 8 (by kernel_rfl) (by kernel_rfl) (by kernel_rfl) (by kernel_rfl)) ?_
 intro W base args ds gs before hval0 hW hcnd _;have hval:∀ (j:Nat) t v,Tryz.f5.params[j]?=some t->args[j]?=some v->Value.okWide Tryz.prog W .any base t v:=hval0;have hW':=hW;obtain ⟨p,q,hA0,hV,rfl,hfz,hnd⟩:=hW;have hA:DataW.TrodAll enc Tryz.prog W 0 (fun _ => true) true Tryz.f5.params.toList args.toList ds p:=hA0;rw [Tryz.params5] at hA hval;obtain ⟨v0,vs0,d0,ds0,p0,q0,hargs0,rfl,rfl,h0,r0⟩:=trodAll_cons hA;obtain ⟨v1,vs1,d1,ds1,p1,q1,rfl,rfl,rfl,h1,r1⟩:=trodAll_cons r0;obtain ⟨v2,vs2,d2,ds2,p2,q2,rfl,rfl,rfl,h2,r2⟩:=trodAll_cons r1;obtain ⟨v3,vs3,d3,ds3,p3,q3,rfl,rfl,rfl,h3,r3⟩:=trodAll_cons r2;obtain ⟨v4,vs4,d4,ds4,p4,q4,rfl,rfl,rfl,h4,r4⟩:=trodAll_cons r3;obtain ⟨rfl,rfl,rfl⟩:=trodAll_nil r4;obtain rfl:args=#[v0,v1,v2,v3,v4]:=by cases args;simp_all
 obtain ⟨rfl,rfl⟩:=trodVars_none hV;obtain ⟨a0,len0,cap0,rfl⟩:=okWide_slice Tryz.underlying24 (hval 0 24 v0 rfl rfl);obtain ⟨a1,len1,cap1,rfl⟩:=okWide_slice Tryz.underlying22 (hval 1 22 v1 rfl rfl);have k0:=h0;have k1:=h1;have k2:=h2;have k3:=h3;have k4:=h4;obtain ⟨x,rfl,hd2,hp2,hw2⟩:=open_int Tryz.underlying29 (hval 2 29 v2 rfl rfl) h2;obtain ⟨y,rfl,hd3,hp3,hw3⟩:=open_int Tryz.underlying5 (hval 3 5 v3 rfl rfl) h3;obtain ⟨z,rfl,hd4,hp4,hw4⟩:=open_int Tryz.underlying5 (hval 4 5 v4 rfl rfl) h4;have lt0:∀ x ∈ p0,x.block<W.heap.size:=by obtain ⟨m,hm⟩:=k0;exact DataW.trod_lt m _ _ _ hm
 have lt1:∀ x ∈ p1,x.block<W.heap.size:=by obtain ⟨m,hm⟩:=k1;exact DataW.trod_lt m _ _ _ hm
 have lt2:∀ x ∈ p2,x.block<W.heap.size:=by obtain ⟨m,hm⟩:=k2;exact DataW.trod_lt m _ _ _ hm
 have lt3:∀ x ∈ p3,x.block<W.heap.size:=by obtain ⟨m,hm⟩:=k3;exact DataW.trod_lt m _ _ _ hm
 have lt4:∀ x ∈ p4,x.block<W.heap.size:=by obtain ⟨m,hm⟩:=k4;exact DataW.trod_lt m _ _ _ hm
 have hb1:∀ x,a1=some x->x.block<W.heap.size:=fun x hx => by subst hx;exact okWide_block (hval 1 22 _ rfl rfl)
 obtain ⟨z0,w0⟩:∃ zs,IsNums W a0 len0 cap0 zs:=by
  obtain ⟨fuel,hf⟩:=h0;rcases open_ints Tryz.underlying24 Tryz.underlying29 (by kernel_rfl) hf with ⟨hcs,_⟩ | ⟨x,l,c,zs,hcs,_,hl,hm,hz,_,hcell,hwz⟩
  ·simp [Value.cells] at hcs;obtain ⟨rfl,rfl,rfl⟩:=hcs;exact ⟨[],.inl ⟨rfl,rfl,rfl,rfl⟩⟩
  ·simp [Value.cells] at hcs;obtain ⟨rfl,rfl,rfl⟩:=hcs;exact ⟨zs,.inr ⟨_,rfl,hl,hm,by simpa using hz,hcell,hwz⟩⟩
 obtain ⟨z1,w1⟩:∃ zs,IsBytes W a1 len1 cap1 zs:=by
  obtain ⟨fuel,hf⟩:=h1;rcases open_ints Tryz.underlying22 Tryz.underlying5 (by kernel_rfl) hf with ⟨hcs,_⟩ | ⟨x,l,c,zs,hcs,_,hl,hm,hz,_,hcell,hwz⟩
  ·simp [Value.cells] at hcs;obtain ⟨rfl,rfl,rfl⟩:=hcs;exact ⟨[],.inl ⟨rfl,rfl,rfl,rfl⟩⟩
  ·simp [Value.cells] at hcs;obtain ⟨rfl,rfl,rfl⟩:=hcs;exact ⟨zs,.inr ⟨_,rfl,hl,hm,by simpa using hz,hcell,hwz⟩⟩
 clear hA0 hval0;refine (turn_walk a0 a1 len0 cap0 len1 cap1 x y z z0 z1 W w0 w1 hb1 (bounds_u32 hw2) (bounds_u8 hw3) (bounds_u8 hw4)).mono fun e W' ⟨he,hk⟩ => ?_
 have bel:=hk.below;subst he;exact ⟨_,rfl,_,_,_,[],_,[],hW',trodAll_mk1 (shut_bool Tryz.underlying4 _),(trodAll_cons_mk (Below.trod tryzLaid (by kernel_rfl) (of_decide_eq_true (by kernel_rfl)) k0 bel lt0) (trodAll_cons_mk (Below.trod tryzLaid (by kernel_rfl) (of_decide_eq_true (by kernel_rfl)) k1 bel lt1) (trodAll_cons_mk (Below.trod tryzLaid (by kernel_rfl) (of_decide_eq_true (by kernel_rfl)) k2 bel lt2) (trodAll_cons_mk (Below.trod tryzLaid (by kernel_rfl) (of_decide_eq_true (by kernel_rfl)) k3 bel lt3) (trodAll_cons_mk (Below.trod tryzLaid (by kernel_rfl) (of_decide_eq_true (by kernel_rfl)) k4 bel lt4) trodAll_mk0))))),rfl,bel.frame _,fun h => by cases h⟩
theorem fnTurned_holds:Rows.FnTurnedSaid :=
 OpenClaim.holds_of_wide 5 Tryz.f5 rfl rfl rfl rfl rfl rfl rfl ⟨rfl,rfl,rfl,rfl,rfl⟩ rfl rfl rfl rfl rfl (by kernel_rfl) Tryz.func5 (by kernel_rfl)
  (of_decide_eq_true (by kernel_rfl)) (by unfold Func.isWrapper;first | (rw [if_pos (by decide +kernel)];kernel_rfl) | (rw [if_neg (by decide +kernel)];exact ⟨rfl,rfl⟩))
  (fun os started H enc _ => turn_lifted os started H enc)
#print axioms fnTurned_holds
end Go.Proofs.YtpgmddjgcgpoeaaGreat
