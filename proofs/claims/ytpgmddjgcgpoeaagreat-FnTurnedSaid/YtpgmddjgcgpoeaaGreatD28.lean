/-
  A part of the proof.
-/
import Derived.Test.YtpgmddjgcgpoeaaGreatD26
import Derived.Test.YtpgmddjgcgpoeaaGreatD27
import Derived.Test.YtpgmddjgcgpoeaaGreatD21
set_option linter.unusedVariables false
set_option linter.unusedSimpArgs false
set_option maxRecDepth 100000
set_option maxHeartbeats 8000000
namespace Go.Proofs.YtpgmddjgcgpoeaaGreat
open Go.RowKit
theorem number_c (D:Doc) (bp:Nat) (A:Option Addr) (C:Nat) (at_ st:Nat) (w:World) (hp:PS D bp A C w at_ st) (hat:at_<=D.n) (hA:∀ a,A=some a->a.block<w.heap.size) :
  Calls Tryz.prog 50 #[.pointer (some ⟨bp,0,none⟩)] w fun e w' => (∃ v,e=.returned v/\LeafOk (numP D at_) v)/\PS D bp A C w' ((numP D at_).pos D) ((numP D at_).st st)/\Kp (Only bp) w w':=by
 by_cases h1:0<=twoRun D at_ 0 4/\D.c (at_+4)=45
 ·exact number_dt D bp A C at_ st w hp hat hA h1
 by_cases h3:0<=twoRun D at_ 0 2/\D.c (at_+2)=58
 ·exact number_tm D bp A C at_ st w hp hat hA h1 h3
 by_cases b0:hasB D at_ [48,120]=true
 ·exact number_b0 D bp A C at_ st w hp hat hA h1 h3 b0
 have b0:hasB D at_ [48,120]=false:=by simpa using b0
 by_cases b1:hasB D at_ [48,111]=true
 ·exact number_b1 D bp A C at_ st w hp hat hA h1 h3 b0 b1
 have b1:hasB D at_ [48,111]=false:=by simpa using b1
 by_cases b2:hasB D at_ [48,98]=true
 ·exact number_b2 D bp A C at_ st w hp hat hA h1 h3 b0 b1 b2
 have b2:hasB D at_ [48,98]=false:=by simpa using b2
 by_cases hx:hasB D (at_+sgnN D at_) [105,110,102]=true\/hasB D (at_+sgnN D at_) [110,97,110]=true
 ·exact number_inf D bp A C at_ st w hp hat hA h1 h3 b0 b1 b2 hx
 ·exact number_dec D bp A C at_ st w hp hat hA h1 h3 b0 b1 b2 hx
theorem value_0 (D:Doc) (bp:Nat) (A:Option Addr) (C k st:Nat) (w:World) (hp:PS D bp A C w k st) (hA:∀ a,A=some a->a.block<w.heap.size) :
  Calls Tryz.prog 24 #[.pointer (some ⟨bp,0,none⟩),.int .i64 51] w (fun e w' => (∃ cs,e=.returned (.agg cs.toArray)/\IsNode cs)/\PS D bp A C w' D.n 2/\Kp (Only bp) w w'):=by
 have hN:=qqh (NS.start hp hA w.heap.size rfl [.int .i64 0,.string ⟨#[]⟩,.slice none 0 0,.slice none 0 0] 43);have hlt:=hp.blk.lt;clear hp hA;go_enter Tryz.func24,Tryz.ntmps24;go_wp2_with fail
 refine (open_c D bp A C k st _ (by exact hN.out.ps)).mono ?_;rintro e w1 ⟨rfl,hp1,hk1⟩;have hM:=qqh (NS.call hN.out hp1 hk1);have b0:=hM.out.blk.cell 0 rfl;have b1:=hM.out.blk.cell 1 rfl;have b2:=hM.out.blk.cell 2 rfl;have b3:=hM.out.blk.cell 3 rfl;have g0:=hM.out.blk.free 0;have g1:=hM.out.blk.free 1;have g2:=hM.out.blk.free 2;have g3:=hM.out.blk.free 3;clear hp1 hk1;go_wp2_with fail
 have h:=NS.put (NS.put (NS.put (NS.put hM.out 0 (.int .i64 0)) 1 (.string ⟨#[]⟩)) 2 (.slice none 0 0)) 3 (.slice none 0 0);refine bodyPost_ret (v:=.agg #[.int .i64 0,.string ⟨#[]⟩,.slice none 0 0,.slice none 0 0]) (by simp [results,Tryz.results24,go_sem,b0,b1,b2,b3]) rfl ⟨⟨[_,_,_,_],rfl,?_⟩,?_,?_⟩
 ·exact ⟨_,_,_,_,rfl,⟨_,_,_,rfl⟩,⟨_,_,_,rfl⟩⟩
 ·exact h.ps
 ·exact h.kp
theorem ValOk.into {r:R Tree} {w1 w2 w':World} {R:Nat} {cs:List Value} (h:ValOk r w2 w1.heap.size cs) (hR:R<w1.heap.size) (base:Nat) (hb:base<=w1.heap.size) (hw:∀ b,b ≠ R->w'.heap[b]?=w2.heap[b]?):ValOk r w' base cs:=by
 cases r with
 | good t p => exact RepT.leave (w:=w2) (base:=w1.heap.size) (S:=fun _ => True) (fun b _ h2 => ⟨trivial,fun _ => hw b (by omega)⟩) hb t cs h
 | bad => exact h
 | opn => exact h
theorem ValOk.leafV {r:R (Nat × List UInt8)} {v:Value} (h:LeafOk r v) (w:World) (base:Nat):∃ k l,v=YtpgmddjgcgpoeaaGreat.leafV k l/\ValOk r.leaf w base [.int .i64 k,.string ⟨l.toArray⟩,.slice none 0 0,.slice none 0 0]:=by
 cases r with
 | good x p => exact ⟨_,_,h,RepT.leafV w base _ x.1 x.2⟩
 | bad => obtain ⟨k,l,e⟩:=h;exact ⟨k,l,e,_,_,_,_,rfl,⟨_,_,_,rfl⟩,⟨_,_,_,rfl⟩⟩
 | opn => obtain ⟨k,l,e⟩:=h;exact ⟨k,l,e,_,_,_,_,rfl,⟨_,_,_,rfl⟩,⟨_,_,_,rfl⟩⟩
theorem ValOk.str (r:R (List UInt8)) (w:World) (base:Nat):ValOk r.str w base [.int .i64 0,.string ⟨r.list.toArray⟩,.slice none 0 0,.slice none 0 0]:=by
 cases r with
 | good l p => exact RepT.leafV w base _ 0 l
 | bad => exact ⟨_,_,_,_,rfl,⟨_,_,_,rfl⟩,⟨_,_,_,rfl⟩⟩
 | opn => exact ⟨_,_,_,_,rfl,⟨_,_,_,rfl⟩,⟨_,_,_,rfl⟩⟩
theorem R.str_pos (r:R (List UInt8)) (D:Doc):r.str.pos D=r.pos D:=by cases r <;> rfl
theorem R.str_st (r:R (List UInt8)) (st:Nat):r.str.st st=r.st st:=by cases r <;> rfl
theorem R.leaf_pos (r:R (Nat × List UInt8)) (D:Doc):r.leaf.pos D=r.pos D:=by cases r <;> rfl
theorem R.leaf_st (r:R (Nat × List UInt8)) (st:Nat):r.leaf.st st=r.st st:=by cases r <;> rfl
theorem RepT.flat {w w':World} {base base':Nat} {S:Nat->Prop} {t:Tree} {a b:Value} (h:RepT w base S t [a,b,.slice none 0 0,.slice none 0 0]):RepT w' base' S t [a,b,.slice none 0 0,.slice none 0 0]:=by
 cases t with
 | mk k l items keys =>
  rw [RepT.iff] at h;obtain ⟨vi,vk,xs,e,h1,h2,h3,h4,h5⟩:=h;simp only [List.cons.injEq,and_true] at e;obtain ⟨rfl,rfl,rfl,rfl⟩:=e;have hi:items=[]:=by
   rcases h1.2 with ⟨_,h⟩ | ⟨g,cap,cur,h,_⟩
   ·exact List.eq_nil_of_length_eq_zero h
   ·cases h
  have hk:keys=[]:=by
   rcases h4.2 with ⟨_,h⟩ | ⟨g,cap,cur,h,_⟩
   ·exact List.eq_nil_of_length_eq_zero h
   ·cases h
  subst hi hk;exact RepT.leafV w' base' S k l
theorem ValOk.flat {r:R Tree} {w w':World} {base base':Nat} {a b:Value} (h:ValOk r w base [a,b,.slice none 0 0,.slice none 0 0]):ValOk r w' base' [a,b,.slice none 0 0,.slice none 0 0]:=by
 cases r with
 | good t p => exact RepT.flat h
 | bad => exact h
 | opn => exact h
theorem numP_end (D:Doc):numP D D.n=.bad:=by
 have h0:=D.out D.n (qqr _);have ht:∀ m,twoRun D D.n 0 (m+1)=-1:=fun m => by rw [twoRun,if_neg (by omega)]
 have hg:grp D 10 D.n=0:=by rw [grp,dgN_stop (by rw [h0,dval_0];omega),if_pos rfl]
 have hs:sgnN D D.n=0:=by unfold sgnN;rw [if_neg (by omega)]
 unfold numP;rw [ht 3,ht 1,if_neg (by omega),if_neg (by omega),hasB_past D D.n _ (by simp) (qqr _),hasB_past D D.n _ (by simp) (qqr _),hasB_past D D.n _ (by simp) (qqr _),hs];simp only [Bool.false_eq_true,if_false];unfold infN;rw [Nat.add_zero,hasB_past D D.n _ (by simp) (qqr _),hasB_past D D.n _ (by simp) (qqr _)];simp only [Bool.false_eq_true,or_self,if_false];unfold tenN;rw [Nat.add_zero,hg];simp
theorem value_dead (D:Doc) (d bp:Nat) (A:Option Addr) (C st:Nat) (w:World) (hd:d<=50) (hp:PS D bp A C w D.n st) (hst:st ≠ 0) (hA:∀ a,A=some a->a.block<w.heap.size) :
  Calls Tryz.prog 24 #[.pointer (some ⟨bp,0,none⟩),.int .i64 (50 - (d:Int))] w (fun e w' => (∃ cs,e=.returned (.agg cs.toArray)/\IsNode cs)/\PS D bp A C w' D.n st/\Kp (Only bp) w w'):=by
 have hs:=D.small;have hlt:=hp.blk.lt;have hN:=qqh (NS.start hp hA w.heap.size rfl [.int .i64 0,.string ⟨#[]⟩,.slice none 0 0,.slice none 0 0] 43);have HA:=qqh hA;have HA1:Hid (∀ a,A=some a->a.block<(w.alloc (.cells #[.int .i64 0,.string ⟨#[]⟩,.slice none 0 0,.slice none 0 0] 43)).heap.size):=fun a ha => by have:=hA a ha;simp;omega
 clear hp hA;have hz0:=D.out D.n (qqr _);have e34:((D.c D.n:Int) == 34)=false:=qqn (by omega);have e39:((D.c D.n:Int) == 39)=false:=qqn (by omega);have e91:((D.c D.n:Int) == 91)=false:=qqn (by omega);have e123:((D.c D.n:Int) == 123)=false:=qqn (by omega);have HH1:Hid (hasB D D.n [34,34,34]=false):=hasB_past D D.n _ (by simp) (qqr _);have HH2:Hid (hasB D D.n [39,39,39]=false):=hasB_past D D.n _ (by simp) (qqr _);have HH3:Hid (hasB D D.n [116,114,117,101]=false):=hasB_past D D.n _ (by simp) (qqr _);have HH4:Hid (hasB D D.n [102,97,108,115,101]=false):=hasB_past D D.n _ (by simp) (qqr _);have HNP:Hid (numP D D.n=.bad):=numP_end D;clear hz0;go_enter Tryz.func24,Tryz.ntmps24;go_wp2_with fail
 refine (peek_c D bp A C (D.n) st 0 _ (by exact hN.out.ps) (by omega) (by omega) (by omega)).mono ?_;rintro e wp ⟨rfl,nqp,rfl⟩;simp only [Int.toNat_zero,Nat.add_zero];go_wp2_with fail
 refine (has_c D bp A C D.n st [34,34,34] _ (by first | exact hN.out.ps | exact hN.out.ps.drewN _) (by omega) (by simp) (by simp)).mono ?_;rintro e wh1 ⟨rfl,nh1,rfl⟩;rw [HH1.out];go_wp2_with fail
 refine (has_c D bp A C D.n st [39,39,39] _ (by first | exact hN.out.ps | exact hN.out.ps.drewN _) (by omega) (by simp) (by simp)).mono ?_;rintro e wh2 ⟨rfl,nh2,rfl⟩;rw [HH2.out];go_wp2_with fail
 refine (has_c D bp A C D.n st [116,114,117,101] _ (by first | exact hN.out.ps | exact hN.out.ps.drewN _) (by omega) (by simp) (by simp)).mono ?_;rintro e wh3 ⟨rfl,nh3,rfl⟩;rw [HH3.out];go_wp2_with fail
 refine (has_c D bp A C D.n st [102,97,108,115,101] _ (by first | exact hN.out.ps | exact hN.out.ps.drewN _) (by omega) (by simp) (by simp)).mono ?_;rintro e wh4 ⟨rfl,nh4,rfl⟩;rw [HH4.out];go_wp2_with fail
 refine (number_c D bp A C D.n st _ (by exact hN.out.ps.drewN _) (by omega) (by exact HA1.out)).mono ?_;rintro e w1 ⟨⟨v,rfl,hlf⟩,hp1,hk1⟩;rw [HNP.out] at hp1 hlf;have hM:=qqh (NS.call (hN.out.drewN _) hp1 hk1);obtain ⟨kk,l,rfl⟩:=hlf;obtain ⟨S,hS⟩:∃ S:ByteArray,(⟨l.toArray⟩:ByteArray)=S:=⟨_,rfl⟩;unfold leafV;rw [hS];clear hp1 hk1 hS;have b0:=hM.out.blk.cell 0 rfl;have b1:=hM.out.blk.cell 1 rfl;have b2:=hM.out.blk.cell 2 rfl;have b3:=hM.out.blk.cell 3 rfl;have g0:=hM.out.blk.free 0;have g1:=hM.out.blk.free 1;have g2:=hM.out.blk.free 2;have g3:=hM.out.blk.free 3;go_wp2_with fail
 have h:=NS.put (NS.put (NS.put (NS.put hM.out 0 (.int .i64 (kk:Nat))) 1 (.string S)) 2 (.slice none 0 0)) 3 (.slice none 0 0);refine bodyPost_ret (v:=.agg #[.int .i64 (kk:Nat),.string S,.slice none 0 0,.slice none 0 0]) (by simp [results,Tryz.results24,go_sem,b0,b1,b2,b3]) rfl ⟨⟨[_,_,_,_],rfl,?_⟩,?_,?_⟩
 ·exact ⟨_,_,_,_,rfl,⟨_,_,_,rfl⟩,⟨_,_,_,rfl⟩⟩
 ·have h2:=h.ps;have h3:failSt st=st:=if_neg hst;exact h3 ▸ h2
 ·exact h.kp
theorem value_s (D:Doc) (d:Nat) (hd:d<=50) (hV:ValC D d) (hVd:ValD D d) (bp:Nat) (A:Option Addr) (C k:Nat) (w:World) (hp:PS D bp A C w k 0) (hk:k<=D.n) (hA:∀ a,A=some a->a.block<w.heap.size) :
  Calls Tryz.prog 24 #[.pointer (some ⟨bp,0,none⟩),.int .i64 (50 - (d:Int))] w (ValPost D bp A C w (valP D (d+1) k)):=by
 have hs:=D.small;have hlt:=hp.blk.lt;have hN:=qqh (NS.start hp hA w.heap.size rfl [.int .i64 0,.string ⟨#[]⟩,.slice none 0 0,.slice none 0 0] 43);have HA:=qqh hA;have HA1:Hid (∀ a,A=some a->a.block<(w.alloc (.cells #[.int .i64 0,.string ⟨#[]⟩,.slice none 0 0,.slice none 0 0] 43)).heap.size):=fun a ha => by have:=hA a ha;simp;omega
 clear hp hA;have hVin:=fun k t p (hk:k<=D.n) h => valP_in D d k t p hk h
 have HVI:=qqh hVin;have HV:=qqh hV;have HVd:=qqh hVd;clear hV hVd hVin;obtain ⟨rr,hrr⟩:∃ r,valP D (d+1) k=r:=⟨_,rfl⟩;rw [hrr];rw [valP] at hrr;have t3:=has_three D 34 k (by omega) (by omega);have t9:=has_three D 39 k (by omega) (by omega);go_enter Tryz.func24,Tryz.ntmps24;go_wp2_with fail
 refine (peek_c D bp A C (k) 0 0 _ (by exact hN.out.ps) (by omega) (by omega) (by omega)).mono ?_;rintro e wp ⟨rfl,nqp,rfl⟩;simp only [Int.toNat_zero,Nat.add_zero];go_wp2_with fail
 by_cases c1:three D 34 k\/three D 39 k
 ·rw [if_pos c1] at hrr;have hin:=Doc.in_of (D:=D) (k:=k+2) (by rcases c1 with c | c <;> (have:=c.2.2;omega));have HRR:Hid (rr=(lin D (D.c k) k).str):=hrr.symm;have hq:D.c k=34\/D.c k=39:=by rcases c1 with c | c;exact .inl c.1;exact .inr c.1
  by_cases c2:three D 34 k
  ·have HH1:Hid (hasB D k [34,34,34]=true):=(by show _=_;exact t3.trans (qqt c2));clear hrr t3 t9 c1 c2;refine (has_c D bp A C k 0 [34,34,34] _ (by first | exact hN.out.ps | exact hN.out.ps.drewN _) (by omega) (by simp) (by simp)).mono ?_;rintro e wh1 ⟨rfl,nh1,rfl⟩;rw [HH1.out];go_wp2_with fail
   refine (lines_c D bp A C k (D.c k) _ (by exact hN.out.ps.drewN _) (by omega) (by exact HA1.out) hq).mono ?_;rintro e w1 ⟨rfl,hp1,hk1⟩;have hM:=qqh (NS.call (hN.out.drewN _) hp1 hk1);have hok:=qqh (ValOk.str (lin D (D.c k) k) w1 w.heap.size);obtain ⟨S,hS⟩:∃ S:ByteArray,(⟨(lin D (D.c k) k).list.toArray⟩:ByteArray)=S:=⟨_,rfl⟩;rw [hS] at hok ⊢;clear hp1 hk1 hS;have b0:=hM.out.blk.cell 0 rfl;have b1:=hM.out.blk.cell 1 rfl;have b2:=hM.out.blk.cell 2 rfl;have b3:=hM.out.blk.cell 3 rfl;have g0:=hM.out.blk.free 0;have g1:=hM.out.blk.free 1;have g2:=hM.out.blk.free 2;have g3:=hM.out.blk.free 3;go_wp2_with fail
   have h:=NS.put (NS.put (NS.put (NS.put hM.out 0 (.int .i64 0)) 1 (.string S)) 2 (.slice none 0 0)) 3 (.slice none 0 0);refine bodyPost_ret (v:=.agg #[.int .i64 0,.string S,.slice none 0 0,.slice none 0 0]) (by simp [results,Tryz.results24,go_sem,b0,b1,b2,b3]) rfl ⟨⟨[_,_,_,_],rfl,?_⟩,?_,?_⟩
   ·rw [HRR.out];exact ValOk.flat hok.out
   ·rw [HRR.out];rw [R.str_pos,R.str_st];exact h.ps
   ·exact h.kp
  ·have c3:three D 39 k:=(by rcases c1 with c | c;exact absurd c c2;exact c);have HH1:Hid (hasB D k [34,34,34]=false):=(by show _=_;exact t3.trans (qqf c2));have HH2:Hid (hasB D k [39,39,39]=true):=(by show _=_;exact t9.trans (qqt c3));clear hrr t3 t9 c1 c2 c3;refine (has_c D bp A C k 0 [34,34,34] _ (by first | exact hN.out.ps | exact hN.out.ps.drewN _) (by omega) (by simp) (by simp)).mono ?_;rintro e wh1 ⟨rfl,nh1,rfl⟩;rw [HH1.out];go_wp2_with fail
   refine (has_c D bp A C k 0 [39,39,39] _ (by first | exact hN.out.ps | exact hN.out.ps.drewN _) (by omega) (by simp) (by simp)).mono ?_;rintro e wh2 ⟨rfl,nh2,rfl⟩;rw [HH2.out];go_wp2_with fail
   refine (lines_c D bp A C k (D.c k) _ (by exact hN.out.ps.drewN _) (by omega) (by exact HA1.out) hq).mono ?_;rintro e w1 ⟨rfl,hp1,hk1⟩;have hM:=qqh (NS.call (hN.out.drewN _) hp1 hk1);have hok:=qqh (ValOk.str (lin D (D.c k) k) w1 w.heap.size);obtain ⟨S,hS⟩:∃ S:ByteArray,(⟨(lin D (D.c k) k).list.toArray⟩:ByteArray)=S:=⟨_,rfl⟩;rw [hS] at hok ⊢;clear hp1 hk1 hS;have b0:=hM.out.blk.cell 0 rfl;have b1:=hM.out.blk.cell 1 rfl;have b2:=hM.out.blk.cell 2 rfl;have b3:=hM.out.blk.cell 3 rfl;have g0:=hM.out.blk.free 0;have g1:=hM.out.blk.free 1;have g2:=hM.out.blk.free 2;have g3:=hM.out.blk.free 3;go_wp2_with fail
   have h:=NS.put (NS.put (NS.put (NS.put hM.out 0 (.int .i64 0)) 1 (.string S)) 2 (.slice none 0 0)) 3 (.slice none 0 0);refine bodyPost_ret (v:=.agg #[.int .i64 0,.string S,.slice none 0 0,.slice none 0 0]) (by simp [results,Tryz.results24,go_sem,b0,b1,b2,b3]) rfl ⟨⟨[_,_,_,_],rfl,?_⟩,?_,?_⟩
   ·rw [HRR.out];exact ValOk.flat hok.out
   ·rw [HRR.out];rw [R.str_pos,R.str_st];exact h.ps
   ·exact h.kp
 rw [if_neg c1] at hrr;have HH1:Hid (hasB D k [34,34,34]=false):=by show _=_;exact t3.trans (qqf (fun c => c1 (.inl c)))
 have HH2:Hid (hasB D k [39,39,39]=false):=by show _=_;exact t9.trans (qqf (fun c => c1 (.inr c)))
 clear t3 t9 c1;refine (has_c D bp A C k 0 [34,34,34] _ (by first | exact hN.out.ps | exact hN.out.ps.drewN _) (by omega) (by simp) (by simp)).mono ?_;rintro e wh1 ⟨rfl,nh1,rfl⟩;rw [HH1.out];go_wp2_with fail
 refine (has_c D bp A C k 0 [39,39,39] _ (by first | exact hN.out.ps | exact hN.out.ps.drewN _) (by omega) (by simp) (by simp)).mono ?_;rintro e wh2 ⟨rfl,nh2,rfl⟩;rw [HH2.out];by_cases c2:D.c k=34\/D.c k=39
 ·rw [if_pos c2] at hrr;have HRR:Hid (rr=(txt D (D.c k) k).str):=hrr.symm;clear hrr;have hq:=c2;by_cases c3:D.c k=34
  ·have e34:((D.c k:Int) == 34)=true:=(by rw [beq_iff_eq];omega);clear c3 c2;have HQ:=qqh hq;clear hq;go_wp2_with fail
   have hq:=HQ.out;refine (text_c D bp A C k (D.c k) _ (by exact hN.out.ps.drewN _) (by omega) (by exact HA1.out) hq).mono ?_;rintro e w1 ⟨rfl,hp1,hk1⟩;have hM:=qqh (NS.call (hN.out.drewN _) hp1 hk1);have hok:=qqh (ValOk.str (txt D (D.c k) k) w1 w.heap.size);obtain ⟨S,hS⟩:∃ S:ByteArray,(⟨(txt D (D.c k) k).list.toArray⟩:ByteArray)=S:=⟨_,rfl⟩;rw [hS] at hok ⊢;clear hp1 hk1 hS;have b0:=hM.out.blk.cell 0 rfl;have b1:=hM.out.blk.cell 1 rfl;have b2:=hM.out.blk.cell 2 rfl;have b3:=hM.out.blk.cell 3 rfl;have g0:=hM.out.blk.free 0;have g1:=hM.out.blk.free 1;have g2:=hM.out.blk.free 2;have g3:=hM.out.blk.free 3;go_wp2_with fail
   have h:=NS.put (NS.put (NS.put (NS.put hM.out 0 (.int .i64 0)) 1 (.string S)) 2 (.slice none 0 0)) 3 (.slice none 0 0);refine bodyPost_ret (v:=.agg #[.int .i64 0,.string S,.slice none 0 0,.slice none 0 0]) (by simp [results,Tryz.results24,go_sem,b0,b1,b2,b3]) rfl ⟨⟨[_,_,_,_],rfl,?_⟩,?_,?_⟩
   ·rw [HRR.out];exact ValOk.flat hok.out
   ·rw [HRR.out,R.str_pos,R.str_st];exact h.ps
   ·exact h.kp
  ·have e34:((D.c k:Int) == 34)=false:=qqn (by omega);have e39:((D.c k:Int) == 39)=true:=(by rw [beq_iff_eq];omega);clear c3 c2;have HQ:=qqh hq;clear hq;go_wp2_with fail
   have hq:=HQ.out;refine (text_c D bp A C k (D.c k) _ (by exact hN.out.ps.drewN _) (by omega) (by exact HA1.out) hq).mono ?_;rintro e w1 ⟨rfl,hp1,hk1⟩;have hM:=qqh (NS.call (hN.out.drewN _) hp1 hk1);have hok:=qqh (ValOk.str (txt D (D.c k) k) w1 w.heap.size);obtain ⟨S,hS⟩:∃ S:ByteArray,(⟨(txt D (D.c k) k).list.toArray⟩:ByteArray)=S:=⟨_,rfl⟩;rw [hS] at hok ⊢;clear hp1 hk1 hS;have b0:=hM.out.blk.cell 0 rfl;have b1:=hM.out.blk.cell 1 rfl;have b2:=hM.out.blk.cell 2 rfl;have b3:=hM.out.blk.cell 3 rfl;have g0:=hM.out.blk.free 0;have g1:=hM.out.blk.free 1;have g2:=hM.out.blk.free 2;have g3:=hM.out.blk.free 3;go_wp2_with fail
   have h:=NS.put (NS.put (NS.put (NS.put hM.out 0 (.int .i64 0)) 1 (.string S)) 2 (.slice none 0 0)) 3 (.slice none 0 0);refine bodyPost_ret (v:=.agg #[.int .i64 0,.string S,.slice none 0 0,.slice none 0 0]) (by simp [results,Tryz.results24,go_sem,b0,b1,b2,b3]) rfl ⟨⟨[_,_,_,_],rfl,?_⟩,?_,?_⟩
   ·rw [HRR.out];exact ValOk.flat hok.out
   ·rw [HRR.out,R.str_pos,R.str_st];exact h.ps
   ·exact h.kp
 rw [if_neg c2] at hrr;have e34:((D.c k:Int) == 34)=false:=qqn (by omega);have e39:((D.c k:Int) == 39)=false:=qqn (by omega);clear c2;go_wp2_with fail
 by_cases c3:hasB D k [116,114,117,101]=true
 ·rw [if_pos c3] at hrr;have HRR:Hid (rr=.good (.mk 3 (D.sub k 4) [] []) (k+4)):=hrr.symm;have hin:=hasB_in c3;simp only [List.length_cons,List.length_nil] at hin;have HH3:=qqh c3;clear hrr c3;refine (has_c D bp A C k 0 [116,114,117,101] _ (by first | exact hN.out.ps | exact hN.out.ps.drewN _) (by omega) (by simp) (by simp)).mono ?_;rintro e wh3 ⟨rfl,nh3,rfl⟩;rw [HH3.out];go_wp2_with fail
  refine (raw_c D bp A C k 0 _ _ _ (by exact hN.out.ps.drewN _) (by omega) (by omega) (by omega) (by omega)).mono ?_;rintro e w1 ⟨rfl,hp1,hk1⟩;rw [int_nat (n:=4) (by omega)] at hp1 ⊢;have hM:=qqh (NS.call (hN.out.drewN _) hp1 hk1);have hok:Hid (ValOk (.good (.mk 3 (D.sub k 4) [] []) (k+4)) w1 w.heap.size [.int .i64 3,.string ⟨(D.sub k 4).toArray⟩,.slice none 0 0,.slice none 0 0]):=RepT.leafV w1 w.heap.size _ 3 (D.sub k 4);obtain ⟨S,hS⟩:∃ S:ByteArray,(⟨(D.sub k 4).toArray⟩:ByteArray)=S:=⟨_,rfl⟩;rw [hS] at hok ⊢;clear hp1 hk1 hS;have b0:=hM.out.blk.cell 0 rfl;have b1:=hM.out.blk.cell 1 rfl;have b2:=hM.out.blk.cell 2 rfl;have b3:=hM.out.blk.cell 3 rfl;have g0:=hM.out.blk.free 0;have g1:=hM.out.blk.free 1;have g2:=hM.out.blk.free 2;have g3:=hM.out.blk.free 3;go_wp2_with fail
  have h:=NS.put (NS.put (NS.put (NS.put hM.out 0 (.int .i64 3)) 1 (.string S)) 2 (.slice none 0 0)) 3 (.slice none 0 0);refine bodyPost_ret (v:=.agg #[.int .i64 3,.string S,.slice none 0 0,.slice none 0 0]) (by simp [results,Tryz.results24,go_sem,b0,b1,b2,b3]) rfl ⟨⟨[_,_,_,_],rfl,?_⟩,?_,?_⟩
  ·rw [HRR.out];exact ValOk.flat hok.out
  ·rw [HRR.out];exact h.ps
  ·exact h.kp
 rw [if_neg c3] at hrr;have HH3:Hid (hasB D k [116,114,117,101]=false):=by show _=_;simpa using c3
 clear c3;refine (has_c D bp A C k 0 [116,114,117,101] _ (by first | exact hN.out.ps | exact hN.out.ps.drewN _) (by omega) (by simp) (by simp)).mono ?_;rintro e wh3 ⟨rfl,nh3,rfl⟩;rw [HH3.out];go_wp2_with fail
 by_cases c4:hasB D k [102,97,108,115,101]=true
 ·rw [if_pos c4] at hrr;have HRR:Hid (rr=.good (.mk 3 (D.sub k 5) [] []) (k+5)):=hrr.symm;have hin:=hasB_in c4;simp only [List.length_cons,List.length_nil] at hin;have HH4:=qqh c4;clear hrr c4;refine (has_c D bp A C k 0 [102,97,108,115,101] _ (by first | exact hN.out.ps | exact hN.out.ps.drewN _) (by omega) (by simp) (by simp)).mono ?_;rintro e wh4 ⟨rfl,nh4,rfl⟩;rw [HH4.out];go_wp2_with fail
  refine (raw_c D bp A C k 0 _ _ _ (by exact hN.out.ps.drewN _) (by omega) (by omega) (by omega) (by omega)).mono ?_;rintro e w1 ⟨rfl,hp1,hk1⟩;rw [int_nat (n:=5) (by omega)] at hp1 ⊢;have hM:=qqh (NS.call (hN.out.drewN _) hp1 hk1);have hok:Hid (ValOk (.good (.mk 3 (D.sub k 5) [] []) (k+5)) w1 w.heap.size [.int .i64 3,.string ⟨(D.sub k 5).toArray⟩,.slice none 0 0,.slice none 0 0]):=RepT.leafV w1 w.heap.size _ 3 (D.sub k 5);obtain ⟨S,hS⟩:∃ S:ByteArray,(⟨(D.sub k 5).toArray⟩:ByteArray)=S:=⟨_,rfl⟩;rw [hS] at hok ⊢;clear hp1 hk1 hS;have b0:=hM.out.blk.cell 0 rfl;have b1:=hM.out.blk.cell 1 rfl;have b2:=hM.out.blk.cell 2 rfl;have b3:=hM.out.blk.cell 3 rfl;have g0:=hM.out.blk.free 0;have g1:=hM.out.blk.free 1;have g2:=hM.out.blk.free 2;have g3:=hM.out.blk.free 3;go_wp2_with fail
  have h:=NS.put (NS.put (NS.put (NS.put hM.out 0 (.int .i64 3)) 1 (.string S)) 2 (.slice none 0 0)) 3 (.slice none 0 0);refine bodyPost_ret (v:=.agg #[.int .i64 3,.string S,.slice none 0 0,.slice none 0 0]) (by simp [results,Tryz.results24,go_sem,b0,b1,b2,b3]) rfl ⟨⟨[_,_,_,_],rfl,?_⟩,?_,?_⟩
  ·rw [HRR.out];exact ValOk.flat hok.out
  ·rw [HRR.out];exact h.ps
  ·exact h.kp
 rw [if_neg c4] at hrr;have HH4:Hid (hasB D k [102,97,108,115,101]=false):=by show _=_;simpa using c4
 clear c4;refine (has_c D bp A C k 0 [102,97,108,115,101] _ (by first | exact hN.out.ps | exact hN.out.ps.drewN _) (by omega) (by simp) (by simp)).mono ?_;rintro e wh4 ⟨rfl,nh4,rfl⟩;rw [HH4.out];by_cases c5:D.c k=91
 ·rw [if_pos c5] at hrr;have HRR:Hid (rr=lstRun D (valP D d) (k+1) []):=hrr.symm;have e91:((D.c k:Int) == 91)=true:=by rw [beq_iff_eq];omega
  have hin:=Doc.in_of (D:=D) (k:=k) (by omega);clear hrr c5;go_wp2_with fail
  refine (list_c D d HV.out HVd.out bp A C k _ (by exact hN.out.ps.drewN _) (by omega) (by exact HA1.out) hd HVI.out).mono ?_;rintro e w1 ⟨⟨cs,rfl,hval⟩,hp1,hk1⟩;have hM:=qqh (NS.call (hN.out.drewN _) hp1 hk1);obtain ⟨vk,vl,vi,vy,rfl,⟨ia,il,ic,rfl⟩,⟨ja,jl,jc,rfl⟩⟩:=ValOk.node hval;have hval:=qqh hval;clear hp1 hk1;have b0:=hM.out.blk.cell 0 rfl;have b1:=hM.out.blk.cell 1 rfl;have b2:=hM.out.blk.cell 2 rfl;have b3:=hM.out.blk.cell 3 rfl;have g0:=hM.out.blk.free 0;have g1:=hM.out.blk.free 1;have g2:=hM.out.blk.free 2;have g3:=hM.out.blk.free 3;go_wp2_with fail
  have h:=NS.put (NS.put (NS.put (NS.put hM.out 0 (.int .i64 vk)) 1 (.string vl)) 2 (.slice ia il ic)) 3 (.slice ja jl jc);refine bodyPost_ret (v:=.agg #[.int .i64 vk,.string vl,.slice ia il ic,.slice ja jl jc]) (by simp [results,Tryz.results24,go_sem,b0,b1,b2,b3]) rfl ⟨⟨[_,_,_,_],rfl,?_⟩,?_,?_⟩
  ·rw [HRR.out];exact ValOk.into (R:=w.heap.size) hval.out (by simp) w.heap.size (by simp) (fun b hb => by rw [heap_put hb,heap_put hb,heap_put hb,heap_put hb])
  ·rw [HRR.out];exact h.ps
  ·exact h.kp
 rw [if_neg c5] at hrr;have e91:((D.c k:Int) == 91)=false:=qqn (by omega);clear c5;by_cases c6:D.c k=123
 ·rw [if_pos c6] at hrr;have HRR:Hid (rr=tabP D (valP D d) (k+1)):=hrr.symm;have e123:((D.c k:Int) == 123)=true:=by rw [beq_iff_eq];omega
  have hin:=Doc.in_of (D:=D) (k:=k) (by omega);clear hrr c6;go_wp2_with fail
  refine (table_c D d HV.out bp A C k _ (by exact hN.out.ps.drewN _) (by omega) (by exact HA1.out) hd HVI.out).mono ?_;rintro e w1 ⟨⟨cs,rfl,hval⟩,hp1,hk1⟩;have hM:=qqh (NS.call (hN.out.drewN _) hp1 hk1);obtain ⟨vk,vl,vi,vy,rfl,⟨ia,il,ic,rfl⟩,⟨ja,jl,jc,rfl⟩⟩:=ValOk.node hval;have hval:=qqh hval;clear hp1 hk1;have b0:=hM.out.blk.cell 0 rfl;have b1:=hM.out.blk.cell 1 rfl;have b2:=hM.out.blk.cell 2 rfl;have b3:=hM.out.blk.cell 3 rfl;have g0:=hM.out.blk.free 0;have g1:=hM.out.blk.free 1;have g2:=hM.out.blk.free 2;have g3:=hM.out.blk.free 3;go_wp2_with fail
  have h:=NS.put (NS.put (NS.put (NS.put hM.out 0 (.int .i64 vk)) 1 (.string vl)) 2 (.slice ia il ic)) 3 (.slice ja jl jc);refine bodyPost_ret (v:=.agg #[.int .i64 vk,.string vl,.slice ia il ic,.slice ja jl jc]) (by simp [results,Tryz.results24,go_sem,b0,b1,b2,b3]) rfl ⟨⟨[_,_,_,_],rfl,?_⟩,?_,?_⟩
  ·rw [HRR.out];exact ValOk.into (R:=w.heap.size) hval.out (by simp) w.heap.size (by simp) (fun b hb => by rw [heap_put hb,heap_put hb,heap_put hb,heap_put hb])
  ·rw [HRR.out];exact h.ps
  ·exact h.kp
 rw [if_neg c6] at hrr;have HRR:Hid (rr=(numP D k).leaf):=hrr.symm;have e123:((D.c k:Int) == 123)=false:=qqn (by omega);clear hrr c6;go_wp2_with fail
 refine (number_c D bp A C k 0 _ (by exact hN.out.ps.drewN _) hk (by exact HA1.out)).mono ?_;rintro e w1 ⟨⟨v,rfl,hlf⟩,hp1,hk1⟩;have hM:=qqh (NS.call (hN.out.drewN _) hp1 hk1);obtain ⟨kk,l,rfl,hok⟩:=ValOk.leafV hlf w1 w.heap.size;obtain ⟨S,hS⟩:∃ S:ByteArray,(⟨l.toArray⟩:ByteArray)=S:=⟨_,rfl⟩;unfold leafV;rw [hS] at hok ⊢;have hok:=qqh hok;clear hp1 hk1 hS hlf;have b0:=hM.out.blk.cell 0 rfl;have b1:=hM.out.blk.cell 1 rfl;have b2:=hM.out.blk.cell 2 rfl;have b3:=hM.out.blk.cell 3 rfl;have g0:=hM.out.blk.free 0;have g1:=hM.out.blk.free 1;have g2:=hM.out.blk.free 2;have g3:=hM.out.blk.free 3;go_wp2_with fail
 have h:=NS.put (NS.put (NS.put (NS.put hM.out 0 (.int .i64 (kk:Nat))) 1 (.string S)) 2 (.slice none 0 0)) 3 (.slice none 0 0);refine bodyPost_ret (v:=.agg #[.int .i64 (kk:Nat),.string S,.slice none 0 0,.slice none 0 0]) (by simp [results,Tryz.results24,go_sem,b0,b1,b2,b3]) rfl ⟨⟨[_,_,_,_],rfl,?_⟩,?_,?_⟩
 ·rw [HRR.out];exact ValOk.flat hok.out
 ·rw [HRR.out,R.leaf_pos,R.leaf_st];exact h.ps
 ·exact h.kp
theorem value_all (D:Doc):∀ d,d<=51->ValC D d/\ValD D d:=by
 intro d
 induction d with
 | zero =>
  intro _;refine ⟨fun bp A C k w dep hdep hp hk hA => ?_,fun bp A C st w dep hdep hp hst hA => ?_⟩
  ·obtain rfl:dep=51:=(by omega);refine (value_0 D bp A C k 0 w hp hA).mono ?_;rintro e w' ⟨⟨cs,he,hn⟩,hp',hk'⟩;exact ⟨⟨cs,he,hn⟩,hp',hk'⟩
  ·obtain rfl:dep=51:=(by omega);exact value_0 D bp A C D.n st w hp hA
 | succ d ih =>
  intro hd;obtain ⟨hV,hVd⟩:=ih (by omega);refine ⟨fun bp A C k w dep hdep hp hk hA => ?_,fun bp A C st w dep hdep hp hst hA => ?_⟩
  ·obtain rfl:dep=50 - (d:Int):=(by omega);exact value_s D d (by omega) hV hVd bp A C k w hp hk hA
  ·obtain rfl:dep=50 - (d:Int):=(by omega);exact value_dead D d bp A C st w (by omega) hp hst hA
end Go.Proofs.YtpgmddjgcgpoeaaGreat
