/-
  A part of the proof.
-/
import Derived.Test.YtpgmddjgcgpoeaaGreatD10
import Derived.Test.YtpgmddjgcgpoeaaGreatD02
set_option linter.unusedVariables false
set_option linter.unusedSimpArgs false
set_option maxRecDepth 100000
set_option maxHeartbeats 8000000
namespace Go.Proofs.YtpgmddjgcgpoeaaGreat
open Go.RowKit
theorem info43:(Tryz.prog.info? 43).map (fun i => (i.zero,i.size,i.bytes))=some (some (.agg #[.int .i64 0,.string ⟨#[]⟩,.slice none 0 0,.slice none 0 0]),4,72):=by kernel_rfl
theorem T41:ElemT 41 43 4 72:=by
 obtain ⟨i,hi,h0,h1,h2⟩:=info_parts info43;exact ⟨Tryz.underlying41,⟨i,_,hi,h0,h1,h2,rfl⟩,by decide⟩
mutual
def RepT (w:World) (base:Nat) (S:Nat->Prop):Tree->List Value->Prop
 | .mk k l items keys,cs => ∃ vi vk xs,cs=[.int .i64 (k:Nat),sv l,vi,vk]/\w.ownsRow base 43 4 vi items.length xs/\(∀ g,vi.ownBlock=some g->S g)/\RepL w base S items xs
   /\ OwnS w base vk keys/\(∀ g,vk.ownBlock=some g->S g)
def RepL (w:World) (base:Nat) (S:Nat->Prop):List Tree->List Value->Prop
 | [],xs => xs=[]
 | t :: ts,xs => ∃ a b,xs=a++b/\RepT w base S t a/\RepL w base S ts b
end
theorem RepT.iff {w:World} {base:Nat} {S:Nat->Prop} {k:Nat} {l:List UInt8} {items:List Tree} {keys:List (List UInt8)} {cs:List Value} :
  RepT w base S (.mk k l items keys) cs ↔ ∃ vi vk xs,cs=[.int .i64 (k:Nat),sv l,vi,vk]/\w.ownsRow base 43 4 vi items.length xs/\(∀ g,vi.ownBlock=some g->S g)/\RepL w base S items xs
   /\ OwnS w base vk keys/\(∀ g,vk.ownBlock=some g->S g):=by rw [RepT]
theorem RepL.nil {w:World} {base:Nat} {S:Nat->Prop} {xs:List Value}:RepL w base S [] xs ↔ xs=[]:=by rw [RepL]
theorem RepL.cons {w:World} {base:Nat} {S:Nat->Prop} {t:Tree} {ts:List Tree} {xs:List Value}:RepL w base S (t :: ts) xs ↔ ∃ a b,xs=a++b/\RepT w base S t a/\RepL w base S ts b:=by rw [RepL]
theorem OwnS.nil (w:World) (base:Nat):OwnS w base (.slice none 0 0) []:=World.ownsRow_nil w base 9 1
theorem own_lower {w:World} {base base' e size:Nat} {v:Value} {n:Nat} {xs:List Value} (h:w.ownsRow base e size v n xs) (hb:base'<=base):w.ownsRow base' e size v n xs:=own_mono h hb
mutual
theorem RepT.leave {w w':World} {base base':Nat} {S S':Nat->Prop} (hS:∀ b,S b->base<=b->S' b/\(b<w.heap.size->w'.heap[b]?=w.heap[b]?)) (hb:base'<=base):∀ (t:Tree) (cs:List Value),RepT w base S t cs->RepT w' base' S' t cs
 | .mk k l items keys,cs,h => by
  rw [RepT] at h ⊢;obtain ⟨vi,vk,xs,e,h1,h2,h3,h4,h5⟩:=h;refine ⟨vi,vk,xs,e,?_,fun g hg => (hS g (h2 g hg) (h1.lt g hg).1).1,RepL.leave hS hb items xs h3,?_,fun g hg => (hS g (h5 g hg) (World.ownsRow.lt h4 g hg).1).1⟩
  ·refine own_mono (base:=base) ⟨h1.1,?_⟩ hb;rcases h1.2 with hn | ⟨g,cap,cur,rfl,hb',hg,r⟩
   ·exact .inl hn
   ·exact .inr ⟨g,cap,cur,rfl,hb',by rw [(hS g (h2 g rfl) hb').2 (Array.getElem?_eq_some_iff.1 hg).1];exact hg,r⟩
  ·refine own_mono (base:=base) ⟨h4.1,?_⟩ hb;rcases h4.2 with hn | ⟨g,cap,cur,rfl,hb',hg,r⟩
   ·exact .inl hn
   ·exact .inr ⟨g,cap,cur,rfl,hb',by rw [(hS g (h5 g rfl) hb').2 (Array.getElem?_eq_some_iff.1 hg).1];exact hg,r⟩
theorem RepL.leave {w w':World} {base base':Nat} {S S':Nat->Prop} (hS:∀ b,S b->base<=b->S' b/\(b<w.heap.size->w'.heap[b]?=w.heap[b]?)) (hb:base'<=base):∀ (ts:List Tree) (xs:List Value),RepL w base S ts xs->RepL w' base' S' ts xs
 | [],xs,h => by rw [RepL] at h ⊢;exact h
 | t :: ts,xs,h => by
  rw [RepL] at h ⊢;obtain ⟨a,b,e,h1,h2⟩:=h;exact ⟨a,b,e,RepT.leave hS hb t a h1,RepL.leave hS hb ts b h2⟩
end
theorem RepL.append {w:World} {base:Nat} {S:Nat->Prop} {ts us:List Tree} {xs ys:List Value} (h:RepL w base S ts xs) (h':RepL w base S us ys):RepL w base S (ts++us) (xs++ys):=by
 induction ts generalizing xs with
 | nil => rw [RepL.nil] at h;subst h;exact h'
 | cons t ts ih =>
  rw [RepL.cons] at h;obtain ⟨a,b,rfl,h1,h2⟩:=h;rw [List.cons_append,RepL.cons];exact ⟨a,b++ys,by rw [List.append_assoc],h1,ih h2⟩
theorem RepT.one {w:World} {base:Nat} {S:Nat->Prop} {t:Tree} {cs:List Value} (h:RepT w base S t cs):RepL w base S [t] cs:=by
 rw [RepL.cons];exact ⟨cs,[],by simp,h,RepL.nil.2 rfl⟩
theorem RepT.length {w:World} {base:Nat} {S:Nat->Prop} {t:Tree} {cs:List Value} (h:RepT w base S t cs):cs.length=4:=by
 cases t with
 | mk k l items keys => rw [RepT.iff] at h;obtain ⟨vi,vk,xs,rfl,_⟩:=h;rfl
theorem RepL.length {w:World} {base:Nat} {S:Nat->Prop} {ts:List Tree} {xs:List Value} (h:RepL w base S ts xs):xs.length=ts.length * 4:=by
 induction ts generalizing xs with
 | nil => rw [RepL.nil] at h;subst h;rfl
 | cons t ts ih =>
  rw [RepL.cons] at h;obtain ⟨a,b,rfl,h1,h2⟩:=h;rw [qqa,h1.length,ih h2,List.length_cons];omega
theorem RepT.kp {w w':World} {base:Nat} {S K:Nat->Prop} {t:Tree} {cs:List Value} (h:RepT w base S t cs) (k:Kp K w w') (hS:∀ b,S b->¬ K b):RepT w' base S t cs :=
 RepT.leave (fun b hb _ => ⟨hb,fun hl => k.block b hl (hS b hb)⟩) (qqr _) t cs h
theorem RepL.kp {w w':World} {base:Nat} {S K:Nat->Prop} {ts:List Tree} {xs:List Value} (h:RepL w base S ts xs) (k:Kp K w w') (hS:∀ b,S b->¬ K b):RepL w' base S ts xs :=
 RepL.leave (fun b hb _ => ⟨hb,fun hl => k.block b hl (hS b hb)⟩) (qqr _) ts xs h
theorem RepT.mono {w:World} {base base':Nat} {S S':Nat->Prop} {t:Tree} {cs:List Value} (h:RepT w base S t cs) (hb:base'<=base) (hS:∀ b,S b->base<=b->S' b):RepT w base' S' t cs :=
 RepT.leave (fun b h1 h2 => ⟨hS b h1 h2,fun _ => rfl⟩) hb t cs h
theorem RepL.mono {w:World} {base base':Nat} {S S':Nat->Prop} {ts:List Tree} {xs:List Value} (h:RepL w base S ts xs) (hb:base'<=base) (hS:∀ b,S b->base<=b->S' b):RepL w base' S' ts xs :=
 RepL.leave (fun b h1 h2 => ⟨hS b h1 h2,fun _ => rfl⟩) hb ts xs h
mutual
theorem RepT.there {w:World} {base:Nat} {S:Nat->Prop}:∀ (t:Tree) (cs:List Value),RepT w base S t cs->RepT w base (fun b => S b/\b<w.heap.size) t cs
 | .mk k l items keys,cs,h => by
  rw [RepT] at h ⊢;obtain ⟨vi,vk,xs,e,h1,h2,h3,h4,h5⟩:=h;exact ⟨vi,vk,xs,e,h1,fun g hg => ⟨h2 g hg,(h1.lt g hg).2⟩,RepL.there items xs h3,h4,fun g hg => ⟨h5 g hg,(World.ownsRow.lt h4 g hg).2⟩⟩
theorem RepL.there {w:World} {base:Nat} {S:Nat->Prop}:∀ (ts:List Tree) (xs:List Value),RepL w base S ts xs->RepL w base (fun b => S b/\b<w.heap.size) ts xs
 | [],xs,h => by rw [RepL] at h ⊢;exact h
 | t :: ts,xs,h => by
  rw [RepL] at h ⊢;obtain ⟨a,b,e,h1,h2⟩:=h;exact ⟨a,b,e,RepT.there t a h1,RepL.there ts b h2⟩
end
theorem RepT.leafV (w:World) (base:Nat) (S:Nat->Prop) (k:Nat) (l:List UInt8):RepT w base S (.mk k l [] []) [.int .i64 (k:Nat),sv l,.slice none 0 0,.slice none 0 0]:=by
 rw [RepT.iff];exact ⟨_,_,[],rfl,World.ownsRow_nil w base 43 4,fun g hg => by simp [Value.ownBlock] at hg,RepL.nil.2 rfl,OwnS.nil w base,fun g hg => by simp [Value.ownBlock] at hg⟩
end Go.Proofs.YtpgmddjgcgpoeaaGreat
