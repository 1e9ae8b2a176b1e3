/-
  FnAny returns true for every slice of bytes, and leaves what it was given as it was. No condition.
-/
import Derived.Test.YtpgmddjgcgpoeaaGreatRows
import Derived.Test.YtpgmddjgcgpoeaaGreatA37
import Derived.WalkKit
import Derived.ProofKit
import Derived.OpenShut
import Derived.ChangeOld
import Derived.Below
set_option linter.unusedVariables false
set_option linter.unusedSimpArgs false
namespace Go.Proofs.YtpgmddjgcgpoeaaGreat
open Go.ChangeShapes Go.WideShapes Go.ChangeAt Go.RowKit
theorem tryzOwn:ownKnob Tryz.prog.godebug=none:=by kernel_rfl
theorem tryzLaid:laidOutB Tryz.prog=true:=by kernel_rfl
theorem Kp.below {w w':World} (k:Kp Nil w w'):Below w.heap.size w w':=⟨k.os,k.tape,k.output,k.size,fun b hb => k.block b hb (fun x => x)⟩
set_option maxRecDepth 100000 in
/-- A slice that came in leads to a block that is there. -/
theorem okWide_block {W:World} {base n c:Nat} {a:Addr} (h:Value.okWide Tryz.prog W .any base 22 (.slice (some a) n c)):a.block<W.heap.size:=by
 simp only [Value.okWide,Tryz.underlying22,Cell.okWide,Cell.ok] at h
 obtain ⟨_,_,_,_,row,cells,hs,_⟩:=h
 unfold World.shape? at hs
 rcases hb:W.heap[a.block]? with _ | o
 ·rw [hb] at hs;cases hs
 ·exact (Array.getElem?_eq_some_iff.1 hb).1
/-- The document that lies in memory. -/
def docOf (n:Nat) (zs:List Int) (hn:n≤65536) (hz:∀ z ∈ zs,(Lit.int .u8 z).wf=true):Doc where
 n:=n
 c:=fun i => if i<n∧i<zs.length then (zs.getD i 0).toNat else 0
 lt:=fun i => by
  split
  ·rename_i h
   have:=range_u8 hz i
   rw [List.getD_eq_getElem?_getD]
   omega
  ·omega
 out:=fun i hi => by rw [if_neg (by omega)]
 small:=by omega
/-- What came in, read. -/
def IsBytes (w:World) (a:Option Addr) (len cap:Nat) (zs:List Int):Prop :=
 (a=none∧len=0∧cap=0∧zs=[]) ∨
 ∃ x,a=some x∧len≤cap∧cap≤maxLen∧zs.length=cap∧(∀ i,i<zs.length→w.cell? (x.add i)=some (.int .u8 (zs.getD i 0)))∧∀ n ∈ zs,(Lit.int .u8 n).wf=true
theorem IsBytes.doc {w:World} {a:Option Addr} {len cap:Nat} {zs:List Int} (h:IsBytes w a len cap zs) (hb:∀ x,a=some x→x.block<w.heap.size) (hn:len≤65536):∃ D:Doc,D.n=len∧DocAt D a cap w:=by
 rcases h with ⟨rfl,rfl,rfl,rfl⟩ | ⟨x,rfl,h1,h2,h3,h4,h5⟩
 ·exact ⟨docOf 0 [] (by omega) (fun z hz => by cases hz),rfl,⟨Nat.le_refl _,by omega,.inl rfl⟩⟩
 ·refine ⟨docOf len zs hn h5,rfl,⟨h1,by unfold maxLen at h2;omega,?_⟩⟩
  rcases Nat.eq_zero_or_pos len with h0 | h0
  ·exact .inl h0
  ·right
   obtain ⟨bd,o,spot⟩:=x
   have hspot:spot=none:=by
    have:=h4 0 (by omega)
    simpa [Addr.add] using World.cell?_spot this
   subst hspot
   refine ⟨bd,o,rfl,hb _ rfl,fun i hi => ?_⟩
   have hi:i<len:=hi
   have h:=h4 i (by omega)
   rw [Addr.add_lit] at h
   rw [h]
   have hr:=range_u8 h5 i
   rw [← List.getD_eq_getElem?_getD] at hr
   show some (Value.int .u8 (zs.getD i 0))=some (.int .u8 (((if i<len∧i<zs.length then (zs.getD i 0).toNat else 0:Nat):Nat):Int))
   rw [if_pos ⟨hi,by omega⟩,Int.toNat_of_nonneg (by omega)]
/-- The walk of FnAny, whatever came in. -/
theorem any_walk (a:Option Addr) (len cap:Nat) (zs:List Int) (w:World) (h:IsBytes w a len cap zs) (hb:∀ x,a=some x→x.block<w.heap.size) :
  Calls Tryz.prog 3 #[.slice a len cap] w fun e w' => e=.returned (.bool true)∧Kp Nil w w':=by
 rcases Nat.lt_or_ge 65536 len with hl | hl
 ·refine any_big a len cap w hl ?_
  rcases h with ⟨_,rfl,_,_⟩ | ⟨x,_,h1,h2,_⟩
  ·omega
  ·unfold maxLen at h2;omega
 ·obtain ⟨D,rfl,hd⟩:=h.doc hb hl
  exact any_c D a cap w hd hb hl
set_option maxRecDepth 100000 in
theorem any_lifted (os:Os) (started:os.Started) (H:Type) (enc:TypeId × Value→H) :
  ReturnsInHanded {} Tryz.checked os 3 .any (Rows.fnAnySpec.pre6 enc Tryz.prog Tryz.f3 Rows.fnAnyRow.domain false) (Rows.fnAnySpec.post enc Tryz.prog Tryz.f3 false true false false):=by
 refine returnsInHanded_of_change (C:=Tryz.checked) tryzOwn started (by kernel_rfl) Tryz.func3
  (ChangeSpec.witness6 (enc:=enc) (C:=Tryz.checked) false ⟨#[],#[.slice none 0 0],[]⟩ 8 (by kernel_rfl) (by kernel_rfl) (by kernel_rfl) (by kernel_rfl)) ?_
 intro W base args ds gs before hval0 hW hcnd _
 have hval:∀ (j:Nat) t v,Tryz.f3.params[j]?=some t→args[j]?=some v→Value.okWide Tryz.prog W .any base t v:=hval0
 have hW':=hW
 obtain ⟨p,q,hA0,hV,rfl,hfz,hnd⟩:=hW
 have hA:DataW.TrodAll enc Tryz.prog W 0 (fun _ => true) true Tryz.f3.params.toList args.toList ds p:=hA0
 rw [Tryz.params3] at hA hval
 obtain ⟨v0,vs0,d0,ds0,p0,q0,hargs,rfl,rfl,h0,r0⟩:=trodAll_cons hA
 obtain ⟨rfl,rfl,rfl⟩:=trodAll_nil r0
 obtain rfl:args=#[v0]:=by cases args;simp_all
 obtain ⟨rfl,rfl⟩:=trodVars_none hV
 obtain ⟨a0,len0,cap0,rfl⟩:=okWide_slice Tryz.underlying22 (hval 0 22 v0 rfl rfl)
 have k0:=h0
 have lt0:∀ x ∈ p0,x.block<W.heap.size:=by obtain ⟨m,hm⟩:=k0;exact DataW.trod_lt m _ _ _ hm
 have hb0:∀ x,a0=some x→x.block<W.heap.size:=fun x hx => by subst hx;exact okWide_block (hval 0 22 _ rfl rfl)
 obtain ⟨z0,w0⟩:∃ zs,IsBytes W a0 len0 cap0 zs:=by
  obtain ⟨fuel,hf⟩:=h0
  rcases open_ints Tryz.underlying22 Tryz.underlying5 (by kernel_rfl) hf with ⟨hcs,_⟩ | ⟨x,l,c,zs,hcs,_,hl,hm,hz,_,hcell,hwz⟩
  ·simp [Value.cells] at hcs
   obtain ⟨rfl,rfl,rfl⟩:=hcs
   exact ⟨[],.inl ⟨rfl,rfl,rfl,rfl⟩⟩
  ·simp [Value.cells] at hcs
   obtain ⟨rfl,rfl,rfl⟩:=hcs
   exact ⟨zs,.inr ⟨_,rfl,hl,hm,by simpa using hz,hcell,hwz⟩⟩
 clear hA0 hval0
 refine (any_walk a0 len0 cap0 z0 W w0 hb0).mono fun e W' ⟨he,hk⟩ => ?_
 have bel:=hk.below
 subst he
 exact ⟨_,rfl,_,_,_,[],_,[],hW',trodAll_mk1 (shut_bool Tryz.underlying4 _),(trodAll_cons_mk (Below.trod tryzLaid (by kernel_rfl) (of_decide_eq_true (by kernel_rfl)) k0 bel lt0) trodAll_mk0),rfl,bel.frame _,fun h => by cases h⟩
theorem fnAny_holds:Rows.FnAnySaid :=
 OpenClaim.holds_of_wide 3 Tryz.f3 rfl rfl rfl rfl rfl rfl rfl ⟨rfl,rfl,rfl,rfl,rfl⟩ rfl rfl rfl rfl rfl (by kernel_rfl) Tryz.func3 (by kernel_rfl)
  (of_decide_eq_true (by kernel_rfl)) (by unfold Func.isWrapper;first | (rw [if_pos (by decide +kernel)];kernel_rfl) | (rw [if_neg (by decide +kernel)];exact ⟨rfl,rfl⟩))
  (fun os started H enc _ => any_lifted os started H enc)
#print axioms fnAny_holds
end Go.Proofs.YtpgmddjgcgpoeaaGreat
