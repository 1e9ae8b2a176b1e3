/-
  A part of the proof.
-/
import Derived.Test.YtpgmddjgcgpoeaaGreatRows
import Derived.Test.YtpgmddjgcgpoeaaGreatD45
import Derived.Test.YtpgmddjgcgpoeaaGreatD42
import Derived.Test.YtpgmddjgcgpoeaaGreatD43
import Derived.WalkKit
import Derived.ProofKit
import Derived.OpenShut
import Derived.ChangeOld
import Derived.Below
set_option linter.unusedVariables false
set_option linter.unusedSimpArgs false
set_option maxRecDepth 100000
set_option maxHeartbeats 8000000
namespace Go.Proofs.YtpgmddjgcgpoeaaGreat
open Go.ChangeShapes Go.WideShapes Go.ChangeAt Go.RowKit
theorem tryzOwn:ownKnob Tryz.prog.godebug=none:=by kernel_rfl
theorem tryzLaid:laidOutB Tryz.prog=true:=by kernel_rfl
theorem Kp.below {w w':World} (k:Kp Nil w w'):Below w.heap.size w w':=⟨k.os,k.tape,k.output,k.size,fun b hb => k.block b hb (fun x => x)⟩
theorem okWide_block {W:World} {base n c:Nat} {a:Addr} (h:Value.okWide Tryz.prog W .any base 22 (.slice (some a) n c)):a.block<W.heap.size:=by
 simp only [Value.okWide,Tryz.underlying22,Cell.okWide,Cell.ok] at h;obtain ⟨_,_,_,_,row,cells,hs,_⟩:=h;unfold World.shape? at hs;rcases hb:W.heap[a.block]? with _ | o
 ·rw [hb] at hs;cases hs
 ·exact (Array.getElem?_eq_some_iff.1 hb).1
def docOf (n:Nat) (zs:List Int) (hn:n<=65536) (hz:∀ z ∈ zs,(Lit.int .u8 z).wf=true):Doc where
 n:=n
 c:=fun i => if i<n/\i<zs.length then (zs.getD i 0).toNat else 0
 lt:=fun i => by
  split
  ·rename_i h;have:=range_u8 hz i;rw [List.getD_eq_getElem?_getD];omega
  ·omega
 out:=fun i hi => by rw [if_neg (by omega)]
 small:=by omega
def IsBytes (w:World) (a:Option Addr) (len cap:Nat) (zs:List Int):Prop :=
 (a=none/\len=0/\cap=0/\zs=[]) \/
 ∃ x,a=some x/\len<=cap/\cap<=maxLen/\zs.length=cap/\(∀ i,i<zs.length->w.cell? (x.add i)=some (.int .u8 (zs.getD i 0)))/\∀ n ∈ zs,(Lit.int .u8 n).wf=true
theorem IsBytes.doc {w:World} {a:Option Addr} {len cap:Nat} {zs:List Int} (h:IsBytes w a len cap zs) (hb:∀ x,a=some x->x.block<w.heap.size) (hn:len<=65536):∃ D:Doc,D.n=len/\DocAt D a cap w:=by
 rcases h with ⟨rfl,rfl,rfl,rfl⟩ | ⟨x,rfl,h1,h2,h3,h4,h5⟩
 ·exact ⟨docOf 0 [] (by omega) (fun z hz => by cases hz),rfl,⟨qqr _,by omega,.inl rfl⟩⟩
 ·refine ⟨docOf len zs hn h5,rfl,⟨h1,by unfold maxLen at h2;omega,?_⟩⟩;rcases Nat.eq_zero_or_pos len with h0 | h0
  ·exact .inl h0
  ·right;obtain ⟨bd,o,spot⟩:=x;have hspot:spot=none:=by
    have:=h4 0 (by omega);simpa [Addr.add] using World.cell?_spot this
   subst hspot;refine ⟨bd,o,rfl,hb _ rfl,fun i hi => ?_⟩;have hi:i<len:=hi;have h:=h4 i (by omega);rw [Addr.add_lit] at h;rw [h];have hr:=range_u8 h5 i;rw [<- List.getD_eq_getElem?_getD] at hr;show some (Value.int .u8 (zs.getD i 0))=some (.int .u8 (((if i<len/\i<zs.length then (zs.getD i 0).toNat else 0:Nat):Nat):Int));rw [if_pos ⟨hi,by omega⟩,Int.toNat_of_nonneg (by omega)]
def IsNums (w:World) (a:Option Addr) (len cap:Nat) (zs:List Int):Prop :=
 (a=none/\len=0/\cap=0/\zs=[]) \/
 ∃ x,a=some x/\len<=cap/\cap<=maxLen/\zs.length=cap/\(∀ i,i<zs.length->w.cell? (x.add i)=some (.int .u32 (zs.getD i 0)))/\∀ n ∈ zs,(Lit.int .u32 n).wf=true
theorem IsNums.num {w:World} {a:Option Addr} {len cap:Nat} {zs:List Int} (h:IsNums w a len cap zs):NumIn w a len:=by
 intro i hi;rcases h with ⟨rfl,rfl,rfl,rfl⟩ | ⟨x,rfl,h1,h2,h3,h4,h5⟩
 ·omega
 ·obtain ⟨bd,o,spot⟩:=x;have hspot:spot=none:=by
   have:=h4 0 (by omega);simpa [Addr.add] using World.cell?_spot this
  subst hspot;have h:=h4 i (by omega);rw [Addr.add_lit] at h;have hr:=range_u32 h5 i;rw [<- List.getD_eq_getElem?_getD] at hr;refine ⟨bd,o,(zs.getD i 0).toNat,rfl,by omega,?_⟩;rw [h,Int.toNat_of_nonneg (by omega)]
end Go.Proofs.YtpgmddjgcgpoeaaGreat
