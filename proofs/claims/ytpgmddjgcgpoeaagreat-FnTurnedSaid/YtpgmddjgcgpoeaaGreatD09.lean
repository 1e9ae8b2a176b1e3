/-
  A part of the proof.
-/
import Derived.Test.YtpgmddjgcgpoeaaGreatD04
import Derived.BigRegion
set_option linter.unusedVariables false
set_option linter.unusedSimpArgs false
set_option maxRecDepth 100000
set_option maxHeartbeats 8000000
namespace Go.Proofs.YtpgmddjgcgpoeaaGreat
open Go.RowKit
theorem PS.drew {D:Doc} {bp:Nat} {A:Option Addr} {C:Nat} {w:World} {at_ st:Nat} (h:PS D bp A C w at_ st):PS D bp A C w.drew at_ st:=⟨h.blk,h.doc,h.ne⟩
theorem PS.other {D:Doc} {bp:Nat} {A:Option Addr} {C:Nat} {w:World} {at_ st b i:Nat} (h:PS D bp A C w at_ st) (hb:b ≠ bp) (hA:∀ a,A=some a->a.block ≠ b) (v:Value):PS D bp A C (w.setCell ⟨b,i,none⟩ v) at_ st :=
 ⟨h.blk.other (Ne.symm hb) v,h.doc.of_block (by simp) fun a ha _ => Below.heap_setCell _ _ _ _ (hA a ha),h.ne⟩
theorem later_c (D:Doc) (bp:Nat) (A:Option Addr) (C:Nat) (at_ st:Nat) (w:World) (hp:PS D bp A C w at_ st) (hat:at_<=1500000000) :
  Calls Tryz.prog 70 #[.pointer (some ⟨bp,0,none⟩)] w fun e w' => e=.returned (.tuple #[])/\PS D bp A C w' (if D.c at_=10\/D.c at_=13\/D.c at_=35 then D.n else at_) (if D.c at_=10\/D.c at_=13\/D.c at_=35 then 2 else st)/\Kp (Only bp) w w':=by
 have HP:=qqh hp;clear hp;by_cases h:D.c at_=10\/D.c at_=13\/D.c at_=35
 ·rw [if_pos h,if_pos h];rcases h with h | h | h
  all_goals
   go_enter Tryz.func70,Tryz.ntmps70;go_wp2_with fail
   refine (peek_c D bp A C at_ st 0 _ HP.out (by omega) (by omega) (by omega)).mono ?_;rintro e w1 ⟨rfl,nq,rfl⟩;simp only [Int.toNat_zero,Nat.add_zero];go_wp2_with fail
   refine (open_c D bp A C at_ st _ (HP.out.drewN _)).mono ?_;rintro e w1 ⟨rfl,hp1,hk1⟩;have hp1:=qqh hp1;have hk1:=qqh hk1
   go_wp2
   go_end0
   exact ⟨rfl,hp1.out,((Kp.refl _ _).drewN _).trans hk1.out⟩
 ·rw [if_neg h,if_neg h];have e1:((D.c at_:Int) == 10)=false:=qqn (by omega);have e2:((D.c at_:Int) == 13)=false:=qqn (by omega);have e3:((D.c at_:Int) == 35)=false:=qqn (by omega);clear h;go_enter Tryz.func70,Tryz.ntmps70;go_wp2_with fail
  refine (peek_c D bp A C at_ st 0 _ HP.out (by omega) (by omega) (by omega)).mono ?_;rintro e w1 ⟨rfl,nq,rfl⟩;simp only [Int.toNat_zero,Nat.add_zero]
  go_wp2
  go_end0
  exact ⟨rfl,HP.out.drewN _,(Kp.refl _ _).drewN _⟩
theorem raw_c (D:Doc) (bp:Nat) (A:Option Addr) (C:Nat) (at_ st:Nat) (kind n:Int) (w:World) (hp:PS D bp A C w at_ st) (hat:at_<=1073741900) (hn:0<=n) (hn2:(at_:Int)+n<=D.n) (hn3:0<n) :
  Calls Tryz.prog 47 #[.pointer (some ⟨bp,0,none⟩),.int .i64 kind,.int .i64 n] w fun e w' => e=.returned (.agg #[.int .i64 kind,.string ⟨(D.sub at_ n.toNat).toArray⟩,.slice none 0 0,.slice none 0 0])/\PS D bp A C w' (at_+n.toNat) st/\Kp (Only bp) w w':=by
 have hs:=D.small;have hC1:=hp.doc.1;have hC2:=hp.doc.2.1;obtain ⟨m,rfl⟩:=Int.eq_ofNat_of_zero_le hn;rw [Int.toNat_natCast];obtain ⟨bd,o,rfl,hc⟩:=hp.byte (i:=at_) (by omega);have hcv:∀ (w':World),(∀ i,i<D.n->w'.cell? ⟨bd,o+i,none⟩=some (.int .u8 (D.c i)))->∀ (q:Nat),(convert 22 9 (.slice (some ⟨bd,o+at_,none⟩) m q)).run Tryz.prog w'=.ok (.string ⟨(D.sub at_ m).toArray⟩) w':=fun w' h q => conv_doc D bd o at_ m q _ h (by omega)
 obtain ⟨S,hS⟩:∃ S:ByteArray,S=⟨(D.sub at_ m).toArray⟩:=⟨_,rfl⟩;rw [<- hS] at hcv ⊢;have hne:¬ C=at_:=by omega
 have HC:=qqh hcv;have hlt:=hp.blk.lt;have hbd:bd<w.heap.size:=World.block_lt_of_cell? (w:=w) (a:=⟨bd,o+at_,none⟩) (hc at_ (by omega));clear hcv hS;have hk1:Kp Nil w (w.alloc (.cells #[.int .i64 0,.string ⟨#[]⟩,.slice none 0 0,.slice none 0 0] 43)):=(Kp.refl _ _).alloc _;have hb1:Blk (w.alloc (.cells #[.int .i64 0,.string ⟨#[]⟩,.slice none 0 0,.slice none 0 0] 43)) w.heap.size [.int .i64 0,.string ⟨#[]⟩,.slice none 0 0,.slice none 0 0] 43:=Blk.new _ _ _;have hsz:(w.alloc (.cells #[.int .i64 0,.string ⟨#[]⟩,.slice none 0 0,.slice none 0 0] 43)).heap.size=w.heap.size+1:=by simp
 have hp1:=hp.kpNil hk1;have HK:=qqh hk1;have HB:=qqh hb1;have HP:=qqh hp1;have HS:=qqh hsz;clear hk1 hb1 hp1 hsz hp hc;go_enter Tryz.func47,Tryz.ntmps47
 go_wp2
 generalize w.alloc (.cells #[.int .i64 0,.string ⟨#[]⟩,.slice none 0 0,.slice none 0 0] 43)=W at *;have h0:=HP.out.c0;have h1:=HP.out.c1;have f1:=HP.out.f 1;obtain ⟨bd',o',hA,hc⟩:=HP.out.byte (i:=at_) (by omega);injection hA with hA;injection hA with hA1 hA2;subst hA1;subst hA2;have hbs:bd<W.heap.size:=World.block_lt_of_cell? (w:=W) (a:=⟨bd,o+at_,none⟩) (hc at_ (by omega));have hbp:=HP.out.blk.lt;have c1:=HC.out W.drew hc;have c2:=HC.out (W.alloc (.cells #[.int .i64 0,.string ⟨#[]⟩,.slice none 0 0,.slice none 0 0] 43)).drew (fun i hi => (World.cell?_alloc_lt (w:=W) (a:=⟨bd,o+i,none⟩) _ hbs).trans (hc i hi));clear hc
 go_region
 all_goals
  have b0:=HB.out.cell 0 rfl;have b1:=HB.out.cell 1 rfl;have b2:=HB.out.cell 2 rfl;have b3:=HB.out.cell 3 rfl;have g0:=HB.out.free 0;have g1:=HB.out.free 1;have g2:=HB.out.free 2;have g3:=HB.out.free 3;have hbl:=HB.out.lt;clear c1 c2
  go_wp2
  have hA:∀ a:Addr,some (⟨bd,o,none⟩:Addr)=some a->a.block ≠ w.heap.size:=fun a ha => by injection ha with ha;subst ha;exact Nat.ne_of_lt hbd
  refine bodyPost_ret (v:=.agg #[.int .i64 kind,.string S,.slice none 0 0,.slice none 0 0]) (by simp [results,Tryz.results47,go_sem,b0,b1,b2,b3,hbl]) rfl ⟨rfl,?_,?_⟩
  ·exact PS.drew (PS.alloc (PS.other (PS.other (PS.other (PS.other (PS.setAt HP.out _ (at_+m) (by omega)) (by omega) hA _) (by omega) hA _) (by omega) hA _) (by omega) hA _) _)
  ·exact Kp.drew (Kp.alloc (Kp.setCell (Kp.setCell (Kp.setCell (Kp.setCell (Kp.putOnly (Kp.nil (Kp.refl (Only bp) w) HK.out) _) (.inr (qqr _)) _) (.inr (qqr _)) _) (.inr (qqr _)) _) (.inr (qqr _)) _) _)
end Go.Proofs.YtpgmddjgcgpoeaaGreat
