/-
  A part of the proof.
-/
import Derived.Test.YtpgmddjgcgpoeaaGreatD01
import Derived.Deep.DeepCutAuto
set_option linter.unusedVariables false
set_option linter.unusedSimpArgs false
set_option maxRecDepth 100000
set_option maxHeartbeats 8000000
namespace Go.Proofs.YtpgmddjgcgpoeaaGreat
open Go.RowKit
theorem wp_frame {P:Program} {c:Code} {Q:Exit->Act->World->Prop} {a b:Act} {w:World} (h:a=b) (k:c.wp P Q b w):c.wp P Q a w:=h ▸ k
theorem list_range (L:List Value) (n:Nat) (h:L.length=n):L=(List.range n).map (fun i => L.getD i undef):=by
 refine List.ext_getElem (by simp [h]) ?_;intro i h1 h2;simp [h1]
theorem frame_range (L:List Value) (n:Nat) (h:L.length=n):(⟨L.toArray,[]⟩:Act)=⟨((List.range n).map (fun i => L.getD i undef)).toArray,[]⟩:=by
 rw [<- list_range L n h]
def frI (a:Act) (i:Nat):Int:=intOf (a.tmps.toList.getD i undef)
theorem mu_lt {n i:Nat} {a b:Act} {x y:Int} (h1:a.tmps.toList.getD i undef=.int .i64 x) (h2:b.tmps.toList.getD i undef=.int .i64 y) (h:n - x.toNat<n - y.toNat):n - (frI a i).toNat<n - (frI b i).toNat:=by
 unfold frI;rw [h1,h2];exact h
end Go.Proofs.YtpgmddjgcgpoeaaGreat
